import PyProof.Rows.All
import Wide.All
import OpenK.AllK
import Wide.FinOn
import Flt.RightMore
import Flt.Calls
import Flt.RightSqrt
import PyProof.EqAt
import KE.KLcPair
import PyProof.ZipIter
import KE.KLcTest
import PySem.Challenge.RW_pe0263_01
set_option Elab.async false
section -- Nez
namespace Mine
theorem nzA1 {p q : Prop} (h : p ∧ q) : p := h.1
theorem nzA2 {a1 p q : Prop} (h : a1 ∧ p ∧ q) : p := h.2.1
theorem nzZ2 {a1 p : Prop} (h : a1 ∧ p) : p := h.2
theorem nzA3 {a1 a2 p q : Prop} (h : a1 ∧ a2 ∧ p ∧ q) : p := h.2.2.1
theorem nzZ3 {a1 a2 p : Prop} (h : a1 ∧ a2 ∧ p) : p := h.2.2
theorem nzA4 {a1 a2 a3 p q : Prop} (h : a1 ∧ a2 ∧ a3 ∧ p ∧ q) : p := h.2.2.2.1
theorem nzZ4 {a1 a2 a3 p : Prop} (h : a1 ∧ a2 ∧ a3 ∧ p) : p := h.2.2.2
theorem nzA5 {a1 a2 a3 a4 p q : Prop} (h : a1 ∧ a2 ∧ a3 ∧ a4 ∧ p ∧ q) : p := h.2.2.2.2.1
theorem nzZ5 {a1 a2 a3 a4 p : Prop} (h : a1 ∧ a2 ∧ a3 ∧ a4 ∧ p) : p := h.2.2.2.2
theorem nzA6 {a1 a2 a3 a4 a5 p q : Prop} (h : a1 ∧ a2 ∧ a3 ∧ a4 ∧ a5 ∧ p ∧ q) : p := h.2.2.2.2.2.1
theorem nzZ6 {a1 a2 a3 a4 a5 p : Prop} (h : a1 ∧ a2 ∧ a3 ∧ a4 ∧ a5 ∧ p) : p := h.2.2.2.2.2
theorem nzA7 {a1 a2 a3 a4 a5 a6 p q : Prop} (h : a1 ∧ a2 ∧ a3 ∧ a4 ∧ a5 ∧ a6 ∧ p ∧ q) : p := h.2.2.2.2.2.2.1
theorem nzZ7 {a1 a2 a3 a4 a5 a6 p : Prop} (h : a1 ∧ a2 ∧ a3 ∧ a4 ∧ a5 ∧ a6 ∧ p) : p := h.2.2.2.2.2.2
theorem nzA8 {a1 a2 a3 a4 a5 a6 a7 p q : Prop} (h : a1 ∧ a2 ∧ a3 ∧ a4 ∧ a5 ∧ a6 ∧ a7 ∧ p ∧ q) : p := h.2.2.2.2.2.2.2.1
theorem nzZ8 {a1 a2 a3 a4 a5 a6 a7 p : Prop} (h : a1 ∧ a2 ∧ a3 ∧ a4 ∧ a5 ∧ a6 ∧ a7 ∧ p) : p := h.2.2.2.2.2.2.2
theorem nzA9 {a1 a2 a3 a4 a5 a6 a7 a8 p q : Prop} (h : a1 ∧ a2 ∧ a3 ∧ a4 ∧ a5 ∧ a6 ∧ a7 ∧ a8 ∧ p ∧ q) : p := h.2.2.2.2.2.2.2.2.1
theorem nzZ9 {a1 a2 a3 a4 a5 a6 a7 a8 p : Prop} (h : a1 ∧ a2 ∧ a3 ∧ a4 ∧ a5 ∧ a6 ∧ a7 ∧ a8 ∧ p) : p := h.2.2.2.2.2.2.2.2
theorem nzA10 {a1 a2 a3 a4 a5 a6 a7 a8 a9 p q : Prop} (h : a1 ∧ a2 ∧ a3 ∧ a4 ∧ a5 ∧ a6 ∧ a7 ∧ a8 ∧ a9 ∧ p ∧ q) : p := h.2.2.2.2.2.2.2.2.2.1
theorem nzZ10 {a1 a2 a3 a4 a5 a6 a7 a8 a9 p : Prop} (h : a1 ∧ a2 ∧ a3 ∧ a4 ∧ a5 ∧ a6 ∧ a7 ∧ a8 ∧ a9 ∧ p) : p := h.2.2.2.2.2.2.2.2.2
theorem nzA11 {a1 a2 a3 a4 a5 a6 a7 a8 a9 a10 p q : Prop} (h : a1 ∧ a2 ∧ a3 ∧ a4 ∧ a5 ∧ a6 ∧ a7 ∧ a8 ∧ a9 ∧ a10 ∧ p ∧ q) : p := h.2.2.2.2.2.2.2.2.2.2.1
theorem nzZ11 {a1 a2 a3 a4 a5 a6 a7 a8 a9 a10 p : Prop} (h : a1 ∧ a2 ∧ a3 ∧ a4 ∧ a5 ∧ a6 ∧ a7 ∧ a8 ∧ a9 ∧ a10 ∧ p) : p := h.2.2.2.2.2.2.2.2.2.2
theorem nzA12 {a1 a2 a3 a4 a5 a6 a7 a8 a9 a10 a11 p q : Prop} (h : a1 ∧ a2 ∧ a3 ∧ a4 ∧ a5 ∧ a6 ∧ a7 ∧ a8 ∧ a9 ∧ a10 ∧ a11 ∧ p ∧ q) : p := h.2.2.2.2.2.2.2.2.2.2.2.1
theorem nzZ12 {a1 a2 a3 a4 a5 a6 a7 a8 a9 a10 a11 p : Prop} (h : a1 ∧ a2 ∧ a3 ∧ a4 ∧ a5 ∧ a6 ∧ a7 ∧ a8 ∧ a9 ∧ a10 ∧ a11 ∧ p) : p := h.2.2.2.2.2.2.2.2.2.2.2
theorem nzA13 {a1 a2 a3 a4 a5 a6 a7 a8 a9 a10 a11 a12 p q : Prop} (h : a1 ∧ a2 ∧ a3 ∧ a4 ∧ a5 ∧ a6 ∧ a7 ∧ a8 ∧ a9 ∧ a10 ∧ a11 ∧ a12 ∧ p ∧ q) : p := h.2.2.2.2.2.2.2.2.2.2.2.2.1
theorem nzZ13 {a1 a2 a3 a4 a5 a6 a7 a8 a9 a10 a11 a12 p : Prop} (h : a1 ∧ a2 ∧ a3 ∧ a4 ∧ a5 ∧ a6 ∧ a7 ∧ a8 ∧ a9 ∧ a10 ∧ a11 ∧ a12 ∧ p) : p := h.2.2.2.2.2.2.2.2.2.2.2.2
theorem nzA14 {a1 a2 a3 a4 a5 a6 a7 a8 a9 a10 a11 a12 a13 p q : Prop} (h : a1 ∧ a2 ∧ a3 ∧ a4 ∧ a5 ∧ a6 ∧ a7 ∧ a8 ∧ a9 ∧ a10 ∧ a11 ∧ a12 ∧ a13 ∧ p ∧ q) : p := h.2.2.2.2.2.2.2.2.2.2.2.2.2.1
theorem nzZ14 {a1 a2 a3 a4 a5 a6 a7 a8 a9 a10 a11 a12 a13 p : Prop} (h : a1 ∧ a2 ∧ a3 ∧ a4 ∧ a5 ∧ a6 ∧ a7 ∧ a8 ∧ a9 ∧ a10 ∧ a11 ∧ a12 ∧ a13 ∧ p) : p := h.2.2.2.2.2.2.2.2.2.2.2.2.2
theorem nzA15 {a1 a2 a3 a4 a5 a6 a7 a8 a9 a10 a11 a12 a13 a14 p q : Prop} (h : a1 ∧ a2 ∧ a3 ∧ a4 ∧ a5 ∧ a6 ∧ a7 ∧ a8 ∧ a9 ∧ a10 ∧ a11 ∧ a12 ∧ a13 ∧ a14 ∧ p ∧ q) : p := h.2.2.2.2.2.2.2.2.2.2.2.2.2.2.1
theorem nzZ15 {a1 a2 a3 a4 a5 a6 a7 a8 a9 a10 a11 a12 a13 a14 p : Prop} (h : a1 ∧ a2 ∧ a3 ∧ a4 ∧ a5 ∧ a6 ∧ a7 ∧ a8 ∧ a9 ∧ a10 ∧ a11 ∧ a12 ∧ a13 ∧ a14 ∧ p) : p := h.2.2.2.2.2.2.2.2.2.2.2.2.2.2
theorem nzA16 {a1 a2 a3 a4 a5 a6 a7 a8 a9 a10 a11 a12 a13 a14 a15 p q : Prop} (h : a1 ∧ a2 ∧ a3 ∧ a4 ∧ a5 ∧ a6 ∧ a7 ∧ a8 ∧ a9 ∧ a10 ∧ a11 ∧ a12 ∧ a13 ∧ a14 ∧ a15 ∧ p ∧ q) : p := h.2.2.2.2.2.2.2.2.2.2.2.2.2.2.2.1
theorem nzZ16 {a1 a2 a3 a4 a5 a6 a7 a8 a9 a10 a11 a12 a13 a14 a15 p : Prop} (h : a1 ∧ a2 ∧ a3 ∧ a4 ∧ a5 ∧ a6 ∧ a7 ∧ a8 ∧ a9 ∧ a10 ∧ a11 ∧ a12 ∧ a13 ∧ a14 ∧ a15 ∧ p) : p := h.2.2.2.2.2.2.2.2.2.2.2.2.2.2.2
theorem nzSS {a b : Nat} (h : a ≠ b) : a + 1 ≠ b + 1 := fun e => h (Nat.succ.inj e)
theorem nzS0 {a b : Nat} (h : a ≤ b) : b + 1 ≠ a := Nat.ne_of_gt (Nat.lt_succ_of_le h)
theorem nz0S {a b : Nat} (h : a ≤ b) : a ≠ b + 1 := Nat.ne_of_lt (Nat.lt_succ_of_le h)
theorem nzLS {a b : Nat} (h : a ≤ b) : a ≤ b + 1 := Nat.le_succ_of_le h
theorem nzLT {a b : Nat} (h : a < b) : a < b + 1 := Nat.lt_succ_of_lt h
open PySem PySem.W in
def AllLtC (d : Addr) : Addr × Obj → List (Addr × Obj) → Prop
  | p, [] => @LT.lt Nat _ p.1 d
  | p, q :: r => @LT.lt Nat _ p.1 d ∧ AllLtC d q r
open PySem PySem.W in
def AllLt1 (d : Addr) : List (Addr × Obj) → Prop
  | [] => True
  | p :: r => AllLtC d p r
open PySem PySem.W in
theorem allLtC {d : Addr} : ∀ {l : List (Addr × Obj)} {p : Addr × Obj}, (∀ q ∈ p :: l, q.1 < d) → AllLtC d p l
  | [], _, h => h _ (.head _)
  | _ :: _, _, h => ⟨h _ (.head _), allLtC fun q hq => h q (.tail _ hq)⟩
open PySem PySem.W in
theorem allLt1 {d : Addr} : ∀ {l : List (Addr × Obj)}, (∀ p ∈ l, p.1 < d) → AllLt1 d l
  | [], _ => trivial
  | _ :: _, h => allLtC h
end Mine
end
section -- Sto
open PySem PySem.W PySem.Calls PyProof.Rows
namespace Mine
theorem storeY_L {M : Model} {A : Around} {E : Value → Shared → Prop} {s : Shared} {Q : Unit → Shared → Prop} {h₀ : Heap} {m : Str → Option Value} {news : List (Addr × Obj)} {cn : Str} {cs : Scope} {L a : Addr} {ccd : Value} {cl : List (Str × Addr)} {x : Str} {v : Value} (F : Fr h₀ L s.heap m) (N : News h₀ L s.heap news)
    (h : ∀ h', let m' := (fun y => if y = x then some v else m y); Fr h₀ L h' m' → News h₀ L h' news → Q () ⟨h', s.gens, s.drawn, s.toks + 1, s.os⟩)
    (hk : cs.kind = .function := by rfl) (hx : (envX cn cs L a ccd cl).kindOf x = some .local := by rfl) : wpAny M A (storeName (envX cn cs L a ccd cl) x v) Q E s :=
  storeX_L F N h hk hx
theorem letAE {M : Model} {A : Around} {env : Env} {body : List Stmt} {Q : Flow → Shared → Prop} {E : Value → Shared → Prop} {s : Shared} (h : let env' := env; wpAny M A (execs body env') Q E s) : wpAny M A (execs body env) Q E s := h
theorem genT {M : Model} {A : Around} {body : List Stmt} {env : Env} {Q : Flow → Shared → Prop} {E : Value → Shared → Prop} {h : Heap} {g : Array GenState} {d : Drawn} {o : OsState} {t : Nat} (k : ∀ t', wpAny M A (execs body env) Q E ⟨h, g, d, t', o⟩) : wpAny M A (execs body env) Q E ⟨h, g, d, t, o⟩ := k t
theorem letF {h₀ h : Heap} {L : Addr} {m : Str → Option Value} {P : Prop} (F : Fr h₀ L h m) (k : let m' := m; Fr h₀ L h m' → P) : P := k F
end Mine
end
section -- Pev
open PySem PySem.W PySem.Calls PyProof.Rows
namespace Mine
def AllMul : List (Int × Int) → Prop
  | [] => True
  | (a, b) :: r => IntMulOk a b ∧ AllMul r
theorem AllMul.left : ∀ {x y : List (Int × Int)}, AllMul (x ++ y) → AllMul x
  | [], _, _ => trivial
  | (_, _) :: _, _, h => ⟨h.1, AllMul.left h.2⟩
theorem AllMul.right : ∀ {x y : List (Int × Int)}, AllMul (x ++ y) → AllMul y
  | [], _, h => h
  | (_, _) :: _, _, h => AllMul.right (h.2 : AllMul (_ ++ _))
/-- an operation of ints or floats that can not raise: its products, its value, the next token -/
def pevB (op : Operator) (x y : Value) (k : Nat) : Option (List (Int × Int) × Value × Nat) := match x, y with
  | .int a _, .int b _ => match op with
    | .Add => some ([], .int (a + b) k, k + 1)
    | .Sub => some ([], .int (a - b) k, k + 1)
    | .Mult => some ([(a, b)], .int (a * b) k, k + 1)
    | _ => none
  | .float a _, .float b _ => match op with
    | .Add => some ([], .float (Float64.add a b) k, k + 1)
    | .Sub => some ([], .float (Float64.sub a b) k, k + 1)
    | .Mult => some ([], .float (Float64.mul a b) k, k + 1)
    | _ => none
  | _, _ => none
/-- an expression of locals, written numbers and such operations -/
def pev (cs : Scope) (m : Str → Option Value) : Nat → Expr → Nat → Option (List (Int × Int) × Value × Nat)
  | 0, _, _ => none
  | n + 1, e, k => match e with
    | .Name x _ => match m x with
      | some v => match (cs.names.lookup x == some .local && !(x == ("__debug__" : Str))) with
        | true => some ([], v, k)
        | false => none
      | none => none
    | .Constant (.int i) _ _ => some ([], .int i k, k + 1)
    | .Constant (.float x) _ _ => some ([], .float x k, k + 1)
    | .BinOp l op r _ => match pev cs m n l k with
      | some (c, a, k1) => match pev cs m n r k1 with
        | some (d, b, k2) => match pevB op a b k2 with
          | some (f, v, k3) => some (c ++ d ++ f, v, k3)
          | none => none
        | none => none
      | none => none
    | _ => none
section
variable {prog : Program} {w : World} {A : Around} {E : Value → Shared → Prop} {h₀ : Heap} {L a : Addr} {m : Str → Option Value} {cn : Str} {cs : Scope} {ccd : Value} {cl : List (Str × Addr)}
theorem pevB_sound {op : Operator} {x y v : Value} {k k' : Nat} {c : List (Int × Int)} {Q : Value → Shared → Prop} {h : Heap} {g : Array GenState} {d : Drawn} {o : OsState} (e : pevB op x y k = some (c, v, k')) (hc : AllMul c) (hQ : Q v ⟨h, g, d, k', o⟩) :
    wpAny (model prog w) A (binaryOp op x y) Q E ⟨h, g, d, k, o⟩ := by
  unfold pevB at e
  split at e
  · split at e <;> cases e
    · exact add_int hQ
    · exact sub_int hQ
    · exact mul_int hQ hc.1
  · split at e <;> cases e
    · exact add_float hQ
    · exact sub_float hQ
    · exact mul_float hQ
  · cases e
theorem pev_sound (hk : cs.kind = .function) {h : Heap} {g : Array GenState} {d : Drawn} {o : OsState} (F : Fr h₀ L h m) : ∀ (n : Nat) (e : Expr) (k k' : Nat) (c : List (Int × Int)) (v : Value) (Q : Value → Shared → Prop), pev cs m n e k = some (c, v, k') → AllMul c → Q v ⟨h, g, d, k', o⟩ →
    wpAny (model prog w) A (eval e (envX cn cs L a ccd cl)) Q E ⟨h, g, d, k, o⟩
  | 0, _, _, _, _, _, _, e, _, _ => by cases e
  | n + 1, e, k, k', c, v, Q, he, hc, hQ => by
    unfold pev at he
    split at he
    · rename_i x pos
      split at he
      · rename_i u hu
        split at he
        · rename_i hb
          cases he
          have hb' := Bool.and_eq_true_iff.mp hb
          exact nameX_L F hu hQ hk (beq_iff_eq.mp hb'.1) (by simpa using hb'.2)
        · cases he
      · cases he
    · cases he; exact wpAny_Constant_int hQ
    · cases he; exact wpAny_Constant_float hQ
    · rename_i l op r pos
      split at he
      · rename_i c1 u k1 h1
        split at he
        · rename_i c2 u2 k2 h2
          split at he
          · rename_i c3 u3 k3 h3
            cases he
            exact wpAny_BinOp (pev_sound hk F n l _ _ _ _ _ h1 hc.left.left (pev_sound hk F n r _ _ _ _ _ h2 hc.left.right (pevB_sound h3 hc.right hQ)))
          · cases he
        · cases he
      · cases he
    · cases he
/-- the walk's line -/
theorem pev_ok {h : Heap} {g : Array GenState} {d : Drawn} {o : OsState} {k k' : Nat} {e : Expr} {c : List (Int × Int)} {v : Value} {Q : Value → Shared → Prop} (F : Fr h₀ L h m) (he : pev cs m 12 e k = some (c, v, k')) (hc : AllMul c) (hk : cs.kind = .function) (hQ : Q v ⟨h, g, d, k', o⟩) :
    wpAny (model prog w) A (eval e (envX cn cs L a ccd cl)) Q E ⟨h, g, d, k, o⟩ := pev_sound hk F 12 e k k' c v Q he hc hQ
def pevs (cs : Scope) (m : Str → Option Value) : List Expr → Nat → Option (List (Int × Int) × List Value × Nat)
  | [], k => some ([], [], k)
  | e :: r, k => match pev cs m 12 e k with
    | some (c, v, k1) => match pevs cs m r k1 with
      | some (d, vs, k2) => some (c ++ d, v :: vs, k2)
      | none => none
    | none => none
theorem pev_star {n : Nat} {e : Expr} {rest : List Expr} {env : Env} {k : Nat} {x} (he : pev cs m n e k = some x) : starEach (e :: rest) env = (false, eval e env) :: starEach rest env := by
  cases n with
  | zero => cases he
  | succ n =>
    unfold pev at he
    split at he
    · rfl
    · rfl
    · rfl
    · rfl
    · cases he
theorem args_ok {h : Heap} {g : Array GenState} {d : Drawn} {o : OsState} {pos : Pos} (F : Fr h₀ L h m) (hk : cs.kind = .function) : ∀ {es : List Expr} {k k' : Nat} {c : List (Int × Int)} {vs : List Value} {Q : List Value → Shared → Prop}, pevs cs m es k = some (c, vs, k') → AllMul c → Q vs ⟨h, g, d, k', o⟩ →
    wpAny (model prog w) A (spliced (backTo pos (starEach es (envX cn cs L a ccd cl)))) Q E ⟨h, g, d, k, o⟩
  | [], _, _, _, _, _, he, _, hQ => by cases he; exact spliced_none hQ
  | e :: r, k, k', c, vs, Q, he, hc, hQ => by
    unfold pevs at he
    split at he
    · rename_i c1 v k1 h1
      split at he
      · rename_i c2 vs' k2 h2
        cases he
        exact spliced_more (pev_sound hk F 12 e _ _ _ _ _ h1 hc.left (args_ok F hk h2 hc.right hQ)) (pev_star h1)
      · cases he
    · cases he
def cmpB (op : CmpOp) (x y : Value) : Option Bool := match x, y with
  | .int a _, .int b _ => match op with
    | .Eq => some (a == b)
    | .NotEq => some (a != b)
    | .Lt => some (decide (a < b))
    | .LtE => some (decide (a ≤ b))
    | .Gt => some (decide (a > b))
    | .GtE => some (decide (a ≥ b))
    | _ => none
  | .float a _, .float b _ => match op with
    | .Eq => some (Float64.cmp a b == some Ordering.eq)
    | .NotEq => some (Float64.cmp a b != some Ordering.eq)
    | .Lt => some (Float64.cmp a b == some Ordering.lt)
    | .LtE => some (Float64.cmp a b == some Ordering.lt || Float64.cmp a b == some Ordering.eq)
    | .Gt => some (Float64.cmp a b == some Ordering.gt)
    | .GtE => some (Float64.cmp a b == some Ordering.gt || Float64.cmp a b == some Ordering.eq)
    | _ => none
  | _, _ => none
theorem cmpB_sound {s : Shared} {op : CmpOp} {x y : Value} {b : Bool} {Q : Value → Shared → Prop} (e : cmpB op x y = some b) (hQ : Q (.bool b) s) : wpAny (model prog w) A (compareOp op x y) Q E s := by
  unfold cmpB at e
  split at e
  · split at e <;> cases e
    · exact eq_int hQ
    · exact ne_int hQ
    · exact lt_int hQ
    · exact le_int hQ
    · exact gt_int hQ
    · exact ge_int hQ
  · split at e <;> cases e
    · exact AutoFloatOps.eq_0 hQ
    · exact AutoFloatOps.ne_0 hQ
    · exact AutoFloatOps.lt_0 hQ
    · exact AutoFloatOps.le_0 hQ
    · exact AutoFloatOps.gt_0 hQ
    · exact AutoFloatOps.ge_0 hQ
  · cases e
def pevC (cs : Scope) (m : Str → Option Value) (l : Expr) (op : CmpOp) (r : Expr) (k : Nat) : Option (List (Int × Int) × Bool × Nat) := match pev cs m 12 l k with
  | some (c, x, k1) => match pev cs m 12 r k1 with
    | some (d, y, k2) => match cmpB op x y with
      | some b => some (c ++ d, b, k2)
      | none => none
    | none => none
  | none => none
theorem cmp_ok {h : Heap} {g : Array GenState} {d : Drawn} {o : OsState} {k k' : Nat} {l r : Expr} {op : CmpOp} {pos : Pos} {whole : Sem Value} {c : List (Int × Int)} {b : Bool} {Q : Bool → Shared → Prop} (F : Fr h₀ L h m) (he : pevC cs m l op r k = some (c, b, k')) (hc : AllMul c) (hk : cs.kind = .function) (hm : behindInMarks op r = false) (hQ : Q b ⟨h, g, d, k', o⟩) :
    wpAny (model prog w) A (isTrue (.Compare l [op] [r] pos) (envX cn cs L a ccd cl) whole) Q E ⟨h, g, d, k, o⟩ := by
  unfold pevC at he
  split at he
  · rename_i c1 x k1 h1
    split at he
    · rename_i c2 y k2 h2
      split at he
      · rename_i b' hb
        cases he
        exact wpAny_isTrue_Compare1 (pev_sound hk F 12 l _ _ _ _ _ h1 hc.left (pev_sound hk F 12 r _ _ _ _ _ h2 hc.right (cmpB_sound hb (wpAny_truthy_bool hQ)))) hm
      · cases he
    · cases he
  · cases he
theorem assign_ok {h : Heap} {g : Array GenState} {d : Drawn} {o : OsState} {k k' : Nat} {e : Expr} {x : Str} {pos' pos : Pos} {c : List (Int × Int)} {v : Value} {news : List (Addr × Obj)} {Q : Flow → Shared → Prop} (F : Fr h₀ L h m) (N : News h₀ L h news) (he : pev cs m 12 e k = some (c, v, k')) (hc : AllMul c) (hk : cs.kind = .function)
    (hx : (envX cn cs L a ccd cl).kindOf x = some .local) (hs : swapsWith e (some (.Name x pos')) pos.line (envX cn cs L a ccd cl) = pure false)
    (hQ : ∀ h', let m' := (fun y => if y = x then some v else m y); Fr h₀ L h' m' → News h₀ L h' news → Q .next ⟨h', g, d, k' + 1, o⟩) :
    wpAny (model prog w) A (exec (.Assign [.Name x pos'] e pos) (envX cn cs L a ccd cl)) Q E ⟨h, g, d, k, o⟩ :=
  wpAny_Assign_Name (pev_sound hk F 12 e _ _ _ _ _ he hc (storeY_L (Q := fun _ => Q .next) F N hQ hk hx)) hs
theorem assign_ok0 {h : Heap} {g : Array GenState} {d : Drawn} {o : OsState} {k k' : Nat} {e : Expr} {x : Str} {pos' pos : Pos} {c : List (Int × Int)} {v : Value} {news : List (Addr × Obj)} {Q : Flow → Shared → Prop} (F : Fr h₀ L h m) (N : News h₀ L h news) (he : pev cs m 12 e k = some (c, v, k')) (hc : AllMul c) (hk : cs.kind = .function)
    (hx : (envX cn cs L a ccd cl).kindOf x = some .local) (hs : swapsWith e (some (.Name x pos')) pos.line (envX cn cs L a ccd cl) = pure false)
    (hQ : ∀ h', Fr h₀ L h' (fun y => if y = x then some v else m y) → News h₀ L h' news → Q .next ⟨h', g, d, k' + 1, o⟩) :
    wpAny (model prog w) A (exec (.Assign [.Name x pos'] e pos) (envX cn cs L a ccd cl)) Q E ⟨h, g, d, k, o⟩ := assign_ok F N he hc hk hx hs hQ
theorem ret_ok {h : Heap} {g : Array GenState} {d : Drawn} {o : OsState} {k k' : Nat} {e : Expr} {pos : Pos} {c : List (Int × Int)} {v : Value} {Q : Flow → Shared → Prop} (F : Fr h₀ L h m) (he : pev cs m 12 e k = some (c, v, k')) (hc : AllMul c) (hk : cs.kind = .function) (hQ : Q (.ret v) ⟨h, g, d, k', o⟩) :
    wpAny (model prog w) A (exec (.Return (some e) pos) (envX cn cs L a ccd cl)) Q E ⟨h, g, d, k, o⟩ := wpAny_Return_some (pev_sound hk F 12 e _ _ _ _ _ he hc hQ)
end
end Mine
end
section -- FlA
open PySem PySem.Float64
namespace Mine
/-- a finite float -/
def Fin (x : UInt64) : Prop := ∃ a m e, decode x = .fin a m e
def U : Nat := 2 ^ 1074
theorem U_pos : 0 < U := Nat.two_pow_pos _
/-- its value -/
def rv (x : UInt64) : Rat := (val x : Rat) / (U : Rat)
theorem exV : ∀ (c j : Nat), j ≤ 2 ^ 53 → ∃ t, V t = j * 2 ^ c
  | 0, j, h => ⟨j, by have := V_at (k := 0) (q := j) h (.inr rfl); simpa using this⟩
  | c + 1, j, h => by
    by_cases h1 : 2 ^ 52 ≤ j
    · exact ⟨_, V_at h (.inl h1)⟩
    · obtain ⟨t, ht⟩ := exV c (2 * j) (by omega)
      exact ⟨t, by rw [ht, Nat.pow_succ]; generalize 2 ^ c = p; grind⟩
theorem right_near {r : UInt64} {neg : Bool} {W D : Nat} (c : Nat) (h : Right r neg W D) (hD : 0 < D) (hW : W ≤ D * (2 ^ 53 * 2 ^ c)) (hc : c ≤ 1900) :
    ∃ t, Fin r ∧ val r = sgn neg (V t) ∧ W ≤ D * V t + D * 2 ^ c ∧ D * V t ≤ W + D * 2 ^ c := by
  obtain ⟨t, rfl, h1, h2, h3⟩ := h
  have hne : t ≠ infMag := by
    intro e
    have h4 := h2.mp e
    have h5 : D * (2 ^ 53 * 2 ^ c) ≤ D * (2 ^ 53 * 2 ^ 1900) := Nat.mul_le_mul_left _ (Nat.mul_le_mul_left _ (Nat.pow_le_pow_right (by decide) hc))
    have h6 : D * ((2 ^ 54 - 1) * 2 ^ 2045) ≤ D * (2 * (2 ^ 53 * 2 ^ 1900)) := by
      calc _ ≤ 2 * W := h4
        _ ≤ 2 * (D * (2 ^ 53 * 2 ^ 1900)) := Nat.mul_le_mul_left _ (Nat.le_trans hW h5)
        _ = D * (2 * (2 ^ 53 * 2 ^ 1900)) := by rw [Nat.mul_left_comm]
    have h7 := Nat.le_of_mul_le_mul_left h6 hD
    exact absurd h7 (by decide +kernel)
  have ht : t < infMag := by omega
  obtain ⟨m, e, hd, hv⟩ := decode_pack neg ht
  refine ⟨t, ⟨_, _, _, hd⟩, val_pack neg ht, ?_⟩
  have hp : 0 < 2 ^ c := Nat.two_pow_pos c
  obtain ⟨t', ht'⟩ := exV c (W / (D * 2 ^ c)) (by
    have : W / (D * 2 ^ c) ≤ (2 ^ 53 * (D * 2 ^ c)) / (D * 2 ^ c) := Nat.div_le_div_right (by rw [Nat.mul_left_comm]; exact hW)
    rwa [Nat.mul_div_cancel _ (Nat.mul_pos hD hp)] at this)
  have h8 := (h3 ht t').1
  have h9 := Nat.div_add_mod W (D * 2 ^ c)
  have h10 := Nat.mod_lt W (Nat.mul_pos hD hp)
  have h11 : D * V t' = D * 2 ^ c * (W / (D * 2 ^ c)) := by rw [ht', Nat.mul_comm (W / _), Nat.mul_assoc]
  unfold dist at h8
  rw [h11] at h8
  generalize D * 2 ^ c * (W / (D * 2 ^ c)) = X at *
  generalize W % (D * 2 ^ c) = Y at *
  generalize D * 2 ^ c = Z at *
  generalize D * V t = T at *
  omega
end Mine
end
section -- FlB
open PySem PySem.Float64
namespace Mine
abbrev e0 : Rat := 1 / 2199023255552
def Ap (x : UInt64) (q e : Rat) : Prop := Fin x ∧ rv x ≤ q + e ∧ q ≤ rv x + e
/-- a grain (one J-th) and the bound below which it is kept -/
structure Grain (J B : Nat) : Prop where
  c : ∃ c, c ≤ 1900 ∧ U = 2 ^ c * J
  b : B * J = 2 ^ 53
  j : 0 < J
theorem grain1 : Grain 2199023255552 4096 := ⟨⟨1033, by decide, by delta U; rw [show (2199023255552 : Nat) = 2 ^ 41 by decide, ← Nat.pow_add]⟩, by decide, by decide⟩
theorem grain2 : Grain 4294967296 2097152 := ⟨⟨1042, by decide, by delta U; rw [show (4294967296 : Nat) = 2 ^ 32 by decide, ← Nat.pow_add]⟩, by decide, by decide⟩
theorem near_of {J B : Nat} (G : Grain J B) {r : UInt64} {neg : Bool} {W D : Nat} {q : Rat} (h : Right r neg W D) (hD : 0 < D) (hq : q * ((U : Rat) * (D : Rat)) = ((sgn neg W : Int) : Rat)) (hb : -(B : Rat) ≤ q ∧ q ≤ (B : Rat)) : Ap r q (1 / (J : Rat)) := by
  obtain ⟨⟨c, hc, hU⟩, hBJ, hJ⟩ := G
  have hJr : (0 : Rat) < (J : Rat) := Rat.natCast_pos.mpr hJ
  have hBr : (B : Rat) * (J : Rat) = 9007199254740992 := by
    have := congrArg (Nat.cast (R := Rat)) hBJ
    rw [Rat.natCast_mul] at this
    rw [this]; decide +kernel
  have hP0 : 0 < 2 ^ c := Nat.two_pow_pos c
  have hrn := fun h2 => right_near c h hD h2 hc
  generalize 2 ^ c = PP at *
  have hUr : (U : Rat) = (PP : Rat) * (J : Rat) := by rw [hU]; push_cast; rfl
  have hPr : (0 : Rat) < (PP : Rat) := Rat.natCast_pos.mpr hP0
  have hDr : (0 : Rat) < (D : Rat) := Rat.natCast_pos.mpr hD
  have hUp : (0 : Rat) < (U : Rat) := Rat.natCast_pos.mpr U_pos
  have hPD : (0 : Rat) < (PP : Rat) * (D : Rat) := Rat.mul_pos hPr hDr
  have hUD : (0 : Rat) < (U : Rat) * (D : Rat) := Rat.mul_pos hUp hDr
  have hW : W ≤ D * (2 ^ 53 * PP) := by
    apply Rat.natCast_le_natCast.mp
    push_cast
    have h1 : (W : Rat) ≤ (B : Rat) * ((U : Rat) * (D : Rat)) := by
      have b1 := Rat.mul_le_mul_of_nonneg_right hb.1 (Rat.le_of_lt hUD)
      have b2 := Rat.mul_le_mul_of_nonneg_right hb.2 (Rat.le_of_lt hUD)
      cases neg
      · have : ((sgn false W : Int) : Rat) = (W : Rat) := by simp [sgn, Rat.intCast_natCast]
        rw [this] at hq
        grind
      · have : ((sgn true W : Int) : Rat) = -(W : Rat) := by simp [sgn, Rat.intCast_natCast]
        rw [this] at hq
        grind
    rw [hUr] at h1
    have h3 : (B : Rat) * ((PP : Rat) * (J : Rat) * (D : Rat)) = 9007199254740992 * ((PP : Rat) * (D : Rat)) := by rw [← hBr]; grind
    rw [h3] at h1
    grind
  obtain ⟨t, hf, hv, h1, h2⟩ := hrn hW
  have h1r : (W : Rat) ≤ (D : Rat) * (V t : Rat) + (D : Rat) * (PP : Rat) := by exact_mod_cast Rat.natCast_le_natCast.mpr h1
  have h2r : (D : Rat) * (V t : Rat) ≤ (W : Rat) + (D : Rat) * (PP : Rat) := by exact_mod_cast Rat.natCast_le_natCast.mpr h2
  have hvr : rv r * (U : Rat) = ((sgn neg (V t) : Int) : Rat) := by
    unfold rv; rw [hv, Rat.div_mul_cancel (Rat.ne_of_gt hUp)]
  have hvr2 : rv r * ((U : Rat) * (D : Rat)) = ((sgn neg (V t) : Int) : Rat) * (D : Rat) := by rw [← hvr]; grind
  have hj : 1 / (J : Rat) * ((U : Rat) * (D : Rat)) = (PP : Rat) * (D : Rat) := by
    rw [hUr]
    have := Rat.div_mul_cancel (a := 1) (Rat.ne_of_gt hJr)
    grind
  generalize 1 / (J : Rat) = ee at *
  refine ⟨hf, ?_, ?_⟩
  · apply Rat.le_of_mul_le_mul_right _ hUD
    cases neg
    · simp only [sgn, if_false, Bool.false_eq_true, Rat.intCast_natCast] at hq hvr2
      grind
    · simp only [sgn, if_true, Rat.intCast_natCast, Rat.intCast_neg] at hq hvr2
      grind
  · apply Rat.le_of_mul_le_mul_right _ hUD
    cases neg
    · simp only [sgn, if_false, Bool.false_eq_true, Rat.intCast_natCast] at hq hvr2
      grind
    · simp only [sgn, if_true, Rat.intCast_natCast, Rat.intCast_neg] at hq hvr2
      grind
end Mine
end
section -- FlC
open PySem PySem.Float64
namespace Mine
theorem U_def : (2 : Nat) ^ 1074 = U := by delta U; exact Eq.refl _
theorem Ur_pos : (0 : Rat) < (U : Rat) := Rat.natCast_pos.mpr U_pos
theorem rv_U (x : UInt64) : rv x * (U : Rat) = (val x : Rat) := by unfold rv; rw [Rat.div_mul_cancel (Rat.ne_of_gt Ur_pos)]
theorem sgn_self (z : Int) : sgn (decide (z < 0)) z.natAbs = z := by
  unfold sgn
  by_cases h : z < 0
  · simp [h]; omega
  · simp [h]; omega
theorem zero_Ap (b : Bool) : Ap (zero b) 0 0 := by
  have ht : 0 < infMag := by decide
  obtain ⟨m, e, hd, hv⟩ := decode_pack b ht
  have h0 : val (zero b) = 0 := by unfold zero; rw [val_pack b ht, V_zero]; cases b <;> rfl
  have h1 : rv (zero b) = 0 := by unfold rv; rw [h0]; simp [Rat.div_def]
  exact ⟨⟨_, _, _, hd⟩, by rw [h1]; grind, by rw [h1]; grind⟩
theorem Ap.mono {x : UInt64} {q e e' : Rat} (h : Ap x q e) (he : e ≤ e') : Ap x q e' := ⟨h.1, by have := h.2.1; grind, by have := h.2.2; grind⟩
theorem Ap.self {x : UInt64} (h : Fin x) : Ap x (rv x) 0 := ⟨h, by grind, by grind⟩
theorem Grain.e {J B : Nat} (G : Grain J B) : (0 : Rat) ≤ 1 / (J : Rat) := by
  have h := Rat.inv_pos.mpr (Rat.natCast_pos.mpr G.j : (0 : Rat) < (J : Rat))
  rw [Rat.div_def, Rat.one_mul]; exact Rat.le_of_lt h
theorem addG {J B : Nat} (G : Grain J B) {x y : UInt64} (hx : Fin x) (hy : Fin y) (hb : -(B : Rat) ≤ rv x + rv y ∧ rv x + rv y ≤ (B : Rat)) : Ap (add x y) (rv x + rv y) (1 / (J : Rat)) := by
  obtain ⟨a, m, e, hx⟩ := hx
  obtain ⟨b, k, f, hy⟩ := hy
  obtain ⟨h1, h2⟩ := add_right hx hy
  have hq : (rv x + rv y) * (U : Rat) = ((val x + val y : Int) : Rat) := by rw [Rat.add_mul, rv_U, rv_U, Rat.intCast_add]
  by_cases h0 : val x + val y = 0
  · rw [h1 h0]
    rw [h0] at hq
    have hz : rv x + rv y = 0 := by
      have := Rat.mul_eq_zero.mp hq
      rcases this with h | h
      · exact h
      · exact absurd h (Rat.ne_of_gt Ur_pos)
    rw [hz]
    exact (zero_Ap _).mono G.e
  · refine near_of G (h2 h0) (by decide) ?_ hb
    rw [sgn_self, ← hq]
    simp
theorem grain1_e : (1 : Rat) / ((2199023255552 : Nat) : Rat) = e0 := by decide +kernel
theorem addR {x y : UInt64} (hx : Fin x) (hy : Fin y) (hb : -4096 ≤ rv x + rv y ∧ rv x + rv y ≤ 4096) : Ap (add x y) (rv x + rv y) e0 := by
  rw [← grain1_e]; exact addG grain1 hx hy hb
theorem neg_Fin {y : UInt64} (hy : Fin y) : Fin (neg y) ∧ rv (neg y) = - rv y := by
  obtain ⟨b, k, f, hy⟩ := hy
  refine ⟨⟨_, _, _, neg_decode hy⟩, ?_⟩
  unfold rv
  rw [neg_val hy]
  simp only [Rat.intCast_neg, Rat.div_def, Rat.neg_mul]
theorem subR {x y : UInt64} (hx : Fin x) (hy : Fin y) (hb : -4096 ≤ rv x - rv y ∧ rv x - rv y ≤ 4096) : Ap (sub x y) (rv x - rv y) e0 := by
  have h := neg_Fin hy
  have := addR hx h.1 (by rw [h.2, ← Rat.sub_eq_add_neg]; exact hb)
  rw [h.2, ← Rat.sub_eq_add_neg] at this
  have e : Float64.sub x y = Float64.add x (Float64.neg y) := by unfold Float64.sub; rfl
  rw [e]
  exact this
theorem sgn_neg_mul (a b : Bool) (m k : Nat) : sgn (a != b) (m * k) = sgn a m * sgn b k := by
  unfold sgn
  cases a <;> cases b <;> simp [Int.mul_neg, Int.neg_mul]
theorem val_sgn {x : UInt64} {a : Bool} {m : Nat} {e : Int} (h : decode x = .fin a m e) : sgn a (val x).natAbs = val x := by
  rw [val_natAbs h, val_eq h]
theorem mulG {J B : Nat} (G : Grain J B) {x y : UInt64} (hx : Fin x) (hy : Fin y) (hb : -(B : Rat) ≤ rv x * rv y ∧ rv x * rv y ≤ (B : Rat)) : Ap (mul x y) (rv x * rv y) (1 / (J : Rat)) := by
  obtain ⟨a, m, e, hx⟩ := hx
  obtain ⟨b, k, f, hy⟩ := hy
  have h := mul_right hx hy
  rw [U_def] at h
  refine near_of G h U_pos ?_ hb
  rw [sgn_neg_mul, val_sgn hx, val_sgn hy, Rat.intCast_mul, ← rv_U, ← rv_U]
  grind
theorem mulR {x y : UInt64} (hx : Fin x) (hy : Fin y) (hb : -4096 ≤ rv x * rv y ∧ rv x * rv y ≤ 4096) : Ap (mul x y) (rv x * rv y) e0 := by
  rw [← grain1_e]; exact mulG grain1 hx hy hb
theorem divR {x y : UInt64} (hx : Fin x) (hy : Fin y) (h0 : rv y ≠ 0) (hb : -4096 ≤ rv x / rv y ∧ rv x / rv y ≤ 4096) : Ap (div x y) (rv x / rv y) e0 := by
  rw [← grain1_e]
  have G := grain1
  obtain ⟨a, m, e, hx⟩ := hx
  obtain ⟨b, k, f, hy⟩ := hy
  have hv : val y ≠ 0 := by
    intro h
    have := rv_U y
    rw [h] at this
    rcases Rat.mul_eq_zero.mp this with h | h
    · exact h0 h
    · exact absurd h (Rat.ne_of_gt Ur_pos)
  have hk : k ≠ 0 := by
    intro h
    have := val_natAbs hy
    rw [h] at this
    simp at this
    exact hv this
  have h := div_right hx hy hk
  rw [U_def] at h
  refine near_of G h (by omega) ?_ hb
  have e1 : ((sgn (a != b) ((val x).natAbs * U) : Int) : Rat) = ((sgn a (val x).natAbs : Int) : Rat) * (U : Rat) * ((sgn b 1 : Int) : Rat) := by
    have : sgn (a != b) ((val x).natAbs * U) = sgn a (val x).natAbs * sgn b 1 * (U : Int) := by
      rw [← sgn_neg_mul, ← sgn_mul, Nat.mul_one]
    rw [this]; push_cast; (try simp only [Rat.intCast_natCast]); grind
  rw [e1, val_sgn hx, ← rv_U x]
  have e2 : (((val y).natAbs : Nat) : Rat) = ((sgn b 1 : Int) : Rat) * (val y : Rat) := by
    have : (((val y).natAbs : Nat) : Int) = sgn b 1 * val y := by
      have h1 := val_sgn hy
      unfold sgn at h1 ⊢
      cases b
      · simp at h1 ⊢; omega
      · simp at h1 ⊢; omega
    rw [← Rat.intCast_natCast, this, Rat.intCast_mul]
  rw [e2, ← rv_U y]
  have e3 : rv x / rv y * rv y = rv x := Rat.div_mul_cancel h0
  grind
theorem intG {J B : Nat} (G : Grain J B) (i : Int) (hb : -(B : Int) ≤ i ∧ i ≤ (B : Int)) : Ap (ofInt i) (i : Rat) (1 / (J : Rat)) := by
  have h := ofInt_right i
  rw [U_def] at h
  refine near_of G h (by decide) ?_ ⟨?_, ?_⟩
  · have : sgn (decide (i < 0)) (i.natAbs * U) = i * (U : Int) := by rw [sgn_mul, sgn_self]
    rw [this]; push_cast; (try simp only [Rat.intCast_natCast]); grind
  · have := Rat.intCast_le_intCast.mpr hb.1; rwa [Rat.intCast_neg, Rat.intCast_natCast] at this
  · have := Rat.intCast_le_intCast.mpr hb.2; rwa [Rat.intCast_natCast] at this
theorem intR (i : Int) (hb : -4096 ≤ i ∧ i ≤ 4096) : Ap (ofInt i) (i : Rat) e0 := by
  rw [← grain1_e]; exact intG grain1 i hb
/-- Python's quotient of two ints -/
theorem divIR (i : Int) (d : Nat) (hd : 0 < d) (hb : -(4096 * (d : Int)) ≤ i ∧ i ≤ 4096 * (d : Int)) : Ap (ofFrac (decide (i < 0) != false) i.natAbs d) ((i : Rat) / (d : Rat)) e0 := by
  have h : Right (ofFrac (decide (i < 0) != false) i.natAbs d) (decide (i < 0) != false) (i.natAbs * U) d := ofFrac_right hd (by rw [U_def]) hd
  have hdr : (0 : Rat) < (d : Rat) := Rat.natCast_pos.mpr hd
  have hq : (i : Rat) / (d : Rat) * (d : Rat) = (i : Rat) := Rat.div_mul_cancel (Rat.ne_of_gt hdr)
  rw [← grain1_e]
  refine near_of grain1 h hd ?_ ⟨?_, ?_⟩
  · have : sgn (decide (i < 0) != false) (i.natAbs * U) = i * (U : Int) := by rw [Bool.bne_false, sgn_mul, sgn_self]
    rw [this]; push_cast; (try simp only [Rat.intCast_natCast]); grind
  · apply Rat.le_of_mul_le_mul_right _ hdr
    rw [hq]
    have := Rat.intCast_le_intCast.mpr hb.1
    push_cast at this ⊢; grind
  · apply Rat.le_of_mul_le_mul_right _ hdr
    rw [hq]
    have := Rat.intCast_le_intCast.mpr hb.2
    push_cast at this ⊢; grind
end Mine
end
section -- FlD
open PySem PySem.Float64
namespace Mine
theorem cmp_val {x y : UInt64} (hx : Fin x) (hy : Fin y) : cmp x y = some (compare (val x) (val y)) := by
  obtain ⟨a, m, e, hx⟩ := hx
  obtain ⟨b, k, f, hy⟩ := hy
  exact cmp_right hx hy
theorem val_lt {x y : UInt64} : val x < val y ↔ rv x < rv y := by
  rw [← Rat.intCast_lt_intCast, ← rv_U, ← rv_U, Rat.mul_lt_mul_right Ur_pos]
theorem val_eq' {x y : UInt64} : val x = val y ↔ rv x = rv y := by
  constructor
  · intro h; unfold rv; rw [h]
  · intro h; apply Rat.intCast_inj.mp; rw [← rv_U, ← rv_U, h]
theorem lt_iff {x y : UInt64} (hx : Fin x) (hy : Fin y) : (cmp x y == some Ordering.lt) = true ↔ rv x < rv y := by
  rw [cmp_val hx hy, ← val_lt]
  simp [Int.compare_eq_lt]
theorem eq_iff {x y : UInt64} (hx : Fin x) (hy : Fin y) : (cmp x y == some Ordering.eq) = true ↔ rv x = rv y := by
  rw [cmp_val hx hy, ← val_eq']
  simp
theorem fin_isFinite {x : UInt64} (h : Fin x) : isFinite x = true := by
  obtain ⟨a, m, e, h⟩ := h
  unfold isFinite; rw [h]
theorem isZero_iff {x : UInt64} (h : Fin x) : isZero x = true ↔ rv x = 0 := by
  obtain ⟨a, m, e, h⟩ := h
  have h1 : isZero x = true ↔ m = 0 := by
    unfold isZero; rw [h]
    cases m with
    | zero => simp
    | succ n => simp
  rw [h1]
  have h2 := val_natAbs h
  have h3 := rv_U x
  have hp := Nat.two_pow_pos (e + 1074).toNat
  constructor
  · intro hm; rw [hm] at h2; simp at h2; rw [h2] at h3
    rcases Rat.mul_eq_zero.mp h3 with h | h
    · exact h
    · exact absurd h (Rat.ne_of_gt Ur_pos)
  · intro hr; rw [hr] at h3
    have : val x = 0 := by apply Rat.intCast_inj.mp; rw [← h3]; grind
    rw [this] at h2
    rcases Nat.mul_eq_zero.mp (h2.symm : m * _ = 0) with h | h
    · exact h
    · omega
/-- a written float -/
theorem rv_of {x : UInt64} {a : Bool} {m k : Nat} (h : decode x = .fin a m (-(k : Int))) (hk : k ≤ 1074) : Fin x ∧ rv x * ((2 ^ k : Nat) : Rat) = ((sgn a m : Int) : Rat) := by
  refine ⟨⟨_, _, _, h⟩, ?_⟩
  have h1 := val_eq h
  rw [sgn_mul] at h1
  have e1 : (-(k : Int) + 1074).toNat = 1074 - k := by omega
  rw [e1] at h1
  have e2 : 2 ^ (1074 - k) * 2 ^ k = U := by rw [← Nat.pow_add, ← U_def]; congr 1; omega
  have h3 := rv_U x
  rw [h1, ← e2] at h3
  have hp : (0 : Rat) < ((2 ^ (1074 - k) : Nat) : Rat) := Rat.natCast_pos.mpr (Nat.two_pow_pos _)
  generalize (2 ^ (1074 - k) : Nat) = P at *
  generalize (2 ^ k : Nat) = K at *
  push_cast at h3
  have h4 : (rv x * (K : Rat) - ((sgn a m : Int) : Rat)) * (P : Rat) = 0 := by
    have : ((((P : Nat) : Int)) : Rat) = (P : Rat) := Rat.intCast_natCast _
    grind
  rcases Rat.mul_eq_zero.mp h4 with h | h
  · grind
  · exact absurd h (Rat.ne_of_gt hp)
theorem rv_sgn {x : UInt64} {a : Bool} {m : Nat} {e : Int} (h : decode x = .fin a m e) : rv x * (U : Rat) = ((sgn a 1 : Int) : Rat) * (m : Rat) * ((2 ^ (e + 1074).toNat : Nat) : Rat) := by
  rw [rv_U, val_eq h, show m * 2 ^ (e + 1074).toNat = 1 * (m * 2 ^ (e + 1074).toNat) by rw [Nat.one_mul], sgn_mul]
  push_cast
  grind
/-- truncation of what is not below nought -/
theorem truncR {x : UInt64} (hx : Fin x) (h0 : 0 ≤ rv x) : (((Flt.toInt truncOf x : Int)) : Rat) ≤ rv x ∧ rv x < ((Flt.toInt truncOf x : Int) : Rat) + 1 := by
  obtain ⟨a, m, e, hx⟩ := hx
  have hge := decode_ge hx
  rw [Flt.toInt_fin hx]
  have hs := rv_sgn hx
  have key : truncOf a m e = (if e ≥ 0 then (m : Int) * 2 ^ e.toNat else (m : Int) / (2 ^ (-e).toNat)) := by
    unfold truncOf
    cases a
    · simp only [Bool.false_eq_true, if_false, floorOf, sgn]
      split
      · rfl
      · exact Int.fdiv_eq_ediv_of_nonneg _ (by exact_mod_cast Nat.zero_le _)
    · have hm : m = 0 := by
        have h1 := val_natAbs hx
        have h2 := val_sgn hx
        by_cases hm : m = 0
        · exact hm
        · exfalso
          have h3 : 0 < m * 2 ^ (e + 1074).toNat := Nat.mul_pos (by omega) (Nat.two_pow_pos _)
          have h4 : val x < 0 := by unfold sgn at h2; simp at h2; omega
          have h5 : rv x * (U : Rat) < 0 := by rw [rv_U]; exact_mod_cast h4
          have h6 := Rat.mul_nonneg h0 (Rat.le_of_lt Ur_pos)
          grind
      subst hm
      simp [ceilOf, floorOf, sgn]
  rw [key]
  have hs1 : rv x * (U : Rat) = (m : Rat) * ((2 ^ (e + 1074).toNat : Nat) : Rat) := by
    cases a
    · rw [hs]; simp [sgn]
    · have h1 := val_natAbs hx
      have h2 := val_sgn hx
      by_cases hm : m = 0
      · subst hm; rw [hs]; simp
      · exfalso
        have h3 : 0 < m * 2 ^ (e + 1074).toNat := Nat.mul_pos (by omega) (Nat.two_pow_pos _)
        have h4 : val x < 0 := by unfold sgn at h2; simp at h2; omega
        have h5 : rv x * (U : Rat) < 0 := by rw [rv_U]; exact_mod_cast h4
        have h6 := Rat.mul_nonneg h0 (Rat.le_of_lt Ur_pos)
        grind
  split
  · rename_i h
    have e1 : (e + 1074).toNat = e.toNat + 1074 := by omega
    rw [e1, Nat.pow_add, U_def] at hs1
    have e2 : ((((m : Int) * 2 ^ e.toNat : Int)) : Rat) = (m : Rat) * ((2 ^ e.toNat : Nat) : Rat) := by
      push_cast; rfl
    rw [e2]
    generalize (2 ^ e.toNat : Nat) = P at *
    have h4 : (rv x - (m : Rat) * (P : Rat)) * (U : Rat) = 0 := by push_cast at hs1; grind
    rcases Rat.mul_eq_zero.mp h4 with h | h
    · constructor <;> grind
    · exact absurd h (Rat.ne_of_gt Ur_pos)
  · rename_i h
    have e1 : 2 ^ (e + 1074).toNat * 2 ^ (-e).toNat = U := by rw [← Nat.pow_add, ← U_def]; congr 1; omega
    rw [← e1] at hs1
    have hp : (0 : Rat) < ((2 ^ (e + 1074).toNat : Nat) : Rat) := Rat.natCast_pos.mpr (Nat.two_pow_pos _)
    have hP0 : 0 < 2 ^ (-e).toNat := Nat.two_pow_pos _
    have e3 : ((m : Int) / 2 ^ (-e).toNat) = (((m / 2 ^ (-e).toNat : Nat)) : Int) := by push_cast; rfl
    rw [e3]
    generalize (2 ^ (e + 1074).toNat : Nat) = P at *
    generalize (2 ^ (-e).toNat : Nat) = K at *
    have h4 : rv x * (K : Rat) = (m : Rat) := by
      have h5 : (rv x * (K : Rat) - (m : Rat)) * (P : Rat) = 0 := by push_cast at hs1; grind
      rcases Rat.mul_eq_zero.mp h5 with h | h
      · grind
      · exact absurd h (Rat.ne_of_gt hp)
    have hK : (0 : Rat) < (K : Rat) := Rat.natCast_pos.mpr hP0
    have d1 := Nat.div_add_mod m K
    have d2 := Nat.mod_lt m hP0
    have d3 : (m : Rat) = (K : Rat) * ((m / K : Nat) : Rat) + ((m % K : Nat) : Rat) := by exact_mod_cast congrArg (Nat.cast (R := Rat)) d1.symm
    have d4 : ((m % K : Nat) : Rat) < (K : Rat) := Rat.natCast_lt_natCast.mpr d2
    have d5 : (0 : Rat) ≤ ((m % K : Nat) : Rat) := Rat.natCast_nonneg
    rw [Rat.intCast_natCast]
    constructor
    · apply Rat.le_of_mul_le_mul_right _ hK; grind
    · apply (Rat.mul_lt_mul_right hK).mp; grind
end Mine
end
section -- FlE
open PySem PySem.Float64
namespace Mine
theorem one_dec : decode 4607182418800017408 = .fin false (2 ^ 52) (-52) := by kernel_rfl
theorem fmodR {x : UInt64} (hx : Fin x) : ∃ n : Int, Ap (fmod x 4607182418800017408) (rv x - (n : Rat)) e0 ∧ -1 ≤ rv x - (n : Rat) ∧ rv x - (n : Rat) ≤ 1 := by
  obtain ⟨a, m, e, hx⟩ := hx
  have hge := decode_ge hx
  have hM : ∃ M g, fmod x 4607182418800017408 = ofBin a M g ∧ -1074 ≤ g ∧ M * 2 ^ (g + 1074).toNat = (val x).natAbs % U := by
    refine ⟨(m * 2 ^ (e - min e (-52)).toNat) % (2 ^ 52 * 2 ^ (-52 - min e (-52)).toNat), min e (-52), ?_, by omega, ?_⟩
    · unfold fmod
      rw [hx, one_dec]
      rfl
    · rw [val_natAbs hx, ← Nat.mul_mod_mul_right]
      have e1 : (e - min e (-52)).toNat + (min e (-52) + 1074).toNat = (e + 1074).toNat := by omega
      have e2 : 52 + (-52 - min e (-52)).toNat + (min e (-52) + 1074).toNat = 1074 := by omega
      rw [Nat.mul_assoc, ← Nat.pow_add, e1, ← Nat.pow_add, ← Nat.pow_add, e2, U_def]
  obtain ⟨M, g, hf, hg, hM⟩ := hM
  have hR := ofBin_right (neg := a) (M := M) hg
  rw [← hf, hM] at hR
  have d1 := Nat.div_add_mod (val x).natAbs U
  have d2 := Nat.mod_lt (val x).natAbs U_pos
  have hs := val_sgn hx
  have hr := rv_U x
  have hq : (rv x - ((sgn a ((val x).natAbs / U) : Int) : Rat)) * (U : Rat) = ((sgn a ((val x).natAbs % U) : Int) : Rat) := by
    have h1 : sgn a ((val x).natAbs % U) = val x - sgn a ((val x).natAbs / U) * (U : Int) := by
      generalize hN : (val x).natAbs = N at *
      generalize hA : N / U = A at *
      generalize hB : N % U = B at *
      rw [← hs, ← d1]
      unfold sgn
      cases a
      · simp; grind
      · simp; grind
    rw [h1]; push_cast; grind
  have hb : -1 ≤ rv x - ((sgn a ((val x).natAbs / U) : Int) : Rat) ∧ rv x - ((sgn a ((val x).natAbs / U) : Int) : Rat) ≤ 1 := by
    have h3 : (((val x).natAbs % U : Nat) : Rat) ≤ (U : Rat) := Rat.natCast_le_natCast.mpr (Nat.le_of_lt d2)
    have h4 : (0 : Rat) ≤ (((val x).natAbs % U : Nat) : Rat) := Rat.natCast_nonneg
    have h5 : ((sgn a ((val x).natAbs % U) : Int) : Rat) ≤ (U : Rat) ∧ -(U : Rat) ≤ ((sgn a ((val x).natAbs % U) : Int) : Rat) := by
      cases a
      · simp only [sgn, Bool.false_eq_true, if_false, Rat.intCast_natCast]; constructor <;> grind
      · simp only [sgn, if_true, Rat.intCast_neg, Rat.intCast_natCast]; constructor <;> grind
    constructor
    · apply Rat.le_of_mul_le_mul_right _ Ur_pos; grind
    · apply Rat.le_of_mul_le_mul_right _ Ur_pos; grind
  refine ⟨_, ?_, hb⟩
  rw [← grain1_e]
  refine near_of grain1 hR (by decide) ?_ ⟨?_, ?_⟩
  · rw [← hq, show ((1 : Nat) : Rat) = 1 from rfl, Rat.mul_one]
  · have := hb.1; rw [show ((4096 : Nat) : Rat) = 4096 from rfl]; grind
  · have := hb.2; rw [show ((4096 : Nat) : Rat) = 4096 from rfl]; grind
theorem one_rv : Fin 4607182418800017408 ∧ rv 4607182418800017408 = 1 := by
  have h := rv_of (k := 52) one_dec (by decide)
  refine ⟨h.1, ?_⟩
  have := h.2
  rw [show ((2 ^ 52 : Nat) : Rat) = 4503599627370496 by decide +kernel, show ((sgn false (2 ^ 52) : Int) : Rat) = 4503599627370496 by decide +kernel] at this
  grind
theorem zero_rv (b : Bool) : Fin (zero b) ∧ rv (zero b) = 0 := by
  have h := zero_Ap b
  exact ⟨h.1, by have h1 := h.2.1; have h2 := h.2.2; grind⟩
/-- x % 1.0 -/
theorem modR {x : UInt64} (hx : Fin x) : ∃ n : Int, Ap (divmod x 4607182418800017408).snd (rv x - (n : Rat)) (2 * e0) ∧ -(2 * e0) ≤ rv (divmod x 4607182418800017408).snd ∧ rv (divmod x 4607182418800017408).snd ≤ 1 + 2 * e0 := by
  obtain ⟨n, ⟨hf, h1, h2⟩, hb1, hb2⟩ := fmodR hx
  have hz := zero_rv false
  have ho := one_rv
  have hlt : ∀ y, Fin y → (lt y (zero false) = true ↔ rv y < 0) := fun y hy => by
    unfold lt; rw [lt_iff hy hz.1, hz.2]
  have hl1 : lt 4607182418800017408 (zero false) = false := by decide +kernel
  have hsnd : (divmod x 4607182418800017408).snd = if isZero (fmod x 4607182418800017408) then copysign (zero false) 4607182418800017408 else if lt (fmod x 4607182418800017408) (zero false) then add (fmod x 4607182418800017408) 4607182418800017408 else fmod x 4607182418800017408 := by
    unfold divmod
    rw [hl1]
    dsimp only
    split
    · rfl
    · cases lt (fmod x 4607182418800017408) (zero false) <;> rfl
  rw [hsnd]
  generalize fmod x 4607182418800017408 = y at *
  have he : e0 = 1 / 2199023255552 := rfl
  by_cases c1 : isZero y = true
  · rw [if_pos c1]
    have hy := (isZero_iff hf).mp c1
    have ec : copysign (zero false) 4607182418800017408 = zero false := by decide +kernel
    rw [ec]
    refine ⟨n, ⟨hz.1, ?_, ?_⟩, ?_, ?_⟩ <;> rw [hz.2] <;> grind
  · rw [if_neg c1]
    by_cases c2 : lt y (zero false) = true
    · rw [if_pos c2]
      have hy := (hlt y hf).mp c2
      have ha := addR hf ho.1 (by rw [ho.2]; constructor <;> grind)
      rw [ho.2] at ha
      obtain ⟨a1, a2, a3⟩ := ha
      refine ⟨n - 1, ⟨a1, ?_, ?_⟩, ?_, ?_⟩ <;> push_cast <;> grind
    · rw [if_neg c2]
      have hy : ¬ rv y < 0 := fun h => c2 ((hlt y hf).mpr h)
      refine ⟨n, ⟨hf, ?_, ?_⟩, ?_, ?_⟩ <;> grind
end Mine
end
section -- FlF
open PySem PySem.Float64
namespace Mine
theorem constR {x : UInt64} {m k : Nat} (h : decode x = .fin false m (-(k : Int))) (hk : k ≤ 1074) (q : Rat) (hq : q * ((2 ^ k : Nat) : Rat) = (m : Rat)) : Fin x ∧ rv x = q := by
  have h1 := rv_of h hk
  refine ⟨h1.1, ?_⟩
  have h2 : rv x * ((2 ^ k : Nat) : Rat) = q * ((2 ^ k : Nat) : Rat) := by
    rw [h1.2, hq]; simp [sgn, Rat.intCast_natCast]
  have hp : (0 : Rat) < ((2 ^ k : Nat) : Rat) := Rat.natCast_pos.mpr (Nat.two_pow_pos _)
  generalize ((2 ^ k : Nat) : Rat) = K at *
  have h4 : (rv x - q) * K = 0 := by grind
  rcases Rat.mul_eq_zero.mp h4 with h | h
  · grind
  · exact absurd h (Rat.ne_of_gt hp)
theorem c6 : Fin 4618441417868443648 ∧ rv 4618441417868443648 = 6 := constR (m := 6755399441055744) (k := 50) (by kernel_rfl) (by decide) _ (by decide +kernel)
theorem c2 : Fin 4611686018427387904 ∧ rv 4611686018427387904 = 2 := constR (m := 4503599627370496) (k := 51) (by kernel_rfl) (by decide) _ (by decide +kernel)
theorem c4 : Fin 4616189618054758400 ∧ rv 4616189618054758400 = 4 := constR (m := 4503599627370496) (k := 50) (by kernel_rfl) (by decide) _ (by decide +kernel)
theorem ch : Fin 4602678819172646912 ∧ rv 4602678819172646912 = 1 / 2 := constR (m := 4503599627370496) (k := 53) (by kernel_rfl) (by decide) _ (by decide +kernel)
theorem c0 : Fin 0 ∧ rv 0 = 0 := constR (m := 0) (k := 1074) (by kernel_rfl) (by decide) _ (by decide +kernel)
theorem c16 : Fin 4595172819793696085 ∧ rv 4595172819793696085 = 6004799503160661 / 36028797018963968 := constR (m := 6004799503160661) (k := 55) (by kernel_rfl) (by decide) _ (by decide +kernel)
theorem c13 : Fin 4599676419421066581 ∧ rv 4599676419421066581 = 6004799503160661 / 18014398509481984 := constR (m := 6004799503160661) (k := 54) (by kernel_rfl) (by decide) _ (by decide +kernel)
theorem c23 : Fin 4604180019048437077 ∧ rv 4604180019048437077 = 6004799503160661 / 9007199254740992 := constR (m := 6004799503160661) (k := 53) (by kernel_rfl) (by decide) _ (by decide +kernel)
theorem cmil : Fin 4562254508917369340 ∧ rv 4562254508917369340 = 1152921504606847 / 1152921504606846976 := constR (m := 4611686018427388) (k := 62) (by kernel_rfl) (by decide) _ (by decide +kernel)
/-- products within bounds -/
theorem mulB {a b A B : Rat} (ha : -A ≤ a ∧ a ≤ A) (hb : -B ≤ b ∧ b ≤ B) : -(A * B) ≤ a * b ∧ a * b ≤ A * B := by
  have hA : 0 ≤ A := by grind
  have h1 := Rat.mul_nonneg (show 0 ≤ A - a by grind) (show 0 ≤ B - b by grind)
  have h2 := Rat.mul_nonneg (show 0 ≤ A + a by grind) (show 0 ≤ B + b by grind)
  have h3 := Rat.mul_nonneg (show 0 ≤ A - a by grind) (show 0 ≤ B + b by grind)
  have h4 := Rat.mul_nonneg (show 0 ≤ A + a by grind) (show 0 ≤ B - b by grind)
  constructor <;> grind
end Mine
end
section -- KTop1
theorem Mine.wTopOff2 : True := by w_top off; trivial
local macro_rules | `(tactic| walk_at "no such line") => `(tactic| fail)
local macro_rules | `(tactic| walk_at "no such line") => `(tactic| fail)
local macro_rules | `(tactic| walk_at "no such line") => `(tactic| fail)
local macro_rules | `(tactic| walk_at "no such line") => `(tactic| fail)
local macro_rules | `(tactic| walk_at "no such line") => `(tactic| fail)
local macro_rules | `(tactic| walk_at "no such line") => `(tactic| fail)
local macro_rules | `(tactic| walk_at "no such line") => `(tactic| fail)
local macro_rules | `(tactic| walk_at "no such line") => `(tactic| fail)
local macro_rules | `(tactic| walk_at "no such line") => `(tactic| fail)
local macro_rules | `(tactic| walk_at "no such line") => `(tactic| fail)
local macro_rules | `(tactic| walk_at "no such line") => `(tactic| fail)
local macro_rules | `(tactic| walk_at "no such line") => `(tactic| fail)
local macro_rules | `(tactic| walk_at "no such line") => `(tactic| fail)
local macro_rules | `(tactic| walk_at "no such line") => `(tactic| fail)
local macro_rules | `(tactic| walk_at "no such line") => `(tactic| fail)
local macro_rules | `(tactic| walk_at "no such line") => `(tactic| fail)
local macro_rules | `(tactic| walk_at "no such line") => `(tactic| fail)
local macro_rules | `(tactic| walk_at "no such line") => `(tactic| fail)
local macro_rules | `(tactic| walk_at "no such line") => `(tactic| fail)
local macro_rules | `(tactic| walk_at "no such line") => `(tactic| fail)
local macro_rules | `(tactic| walk_at "no such line") => `(tactic| fail)
local macro_rules | `(tactic| walk_at "no such line") => `(tactic| fail)
local macro_rules | `(tactic| walk_at "no such line") => `(tactic| fail)
local macro_rules | `(tactic| walk_at "no such line") => `(tactic| fail)
local macro_rules | `(tactic| walk_at "no such line") => `(tactic| fail)
open PySem PySem.W PyProof.Rows
set_option Elab.async false
set_option maxRecDepth 100000
set_option maxHeartbeats 8000000
namespace Mine
theorem two {a b c : Prop} (_ : a) (_ : b) (m : c) (_ : a) (_ : b) : c := m
noncomputable def hd : Σ' (Lf T : Prop), PySem.Challenge.rw_pe0263_01.wellSaid = true → Lf → T → PySem.Challenge.rw_pe0263_01.Holds := ⟨_, _, by
  intro said left walk
  w_on
  refine holds_law said fun _ => ?_
  refine two left walk ?main ?hl ?hc
  rotate_left
  exact left
  exact walk
  k_head
  case hw => w_witness2⟩
end Mine
end
section -- Ctr
open PySem PySem.W PyProof.Rows
namespace Mine
abbrev P0 : Program := PySem.Challenge.rw_pe0263_01.row.prog
noncomputable abbrev LS : List Str := looseW hd.view_1 [Str.ofString "ONE_THIRD", Str.ofString "ONE_SIXTH", Str.ofString "TWO_THIRD", Str.ofString "Whitespace"] ++ List.map (fun x => x.name) (recsOf hd.view_1) ++ List.map (fun x => x.fst) (litsOf hd.view_1) ++ List.map (fun x => x.name) (clssOf hd.view_1 (looseW hd.view_1 [Str.ofString "ONE_THIRD", Str.ofString "ONE_SIXTH", Str.ofString "TWO_THIRD", Str.ofString "Whitespace"]))
/-- a contract: what a call of the def at f does in any caller's frame -/
abbrev Ctr (w : World) (kd ku : Nat) (f : Addr) (news : List (Addr × Obj)) (vs : List Value) (pre : Prop) (Ret : Heap → Addr → (Str → Option Value) → Shared → (Value → Shared → Prop) → Prop) : Prop :=
  ∀ (mean : ExcName → Option Value) (mg mb : Str → Option Value) (dp un : Nat) (gd : Option (List Code)) (cn : Str) (cs : Scope) (a : Addr) (ccd : Value) (cl : List (Str × Addr)) (outer : List Env) (A₀ : Around) (base h₀ : Heap) (L : Addr) (m : Str → Option Value) (s : Shared) (Q E : Value → Shared → Prop),
    Below A₀ base outer h₀ → Fr h₀ L s.heap m → (hd.heap_1 w.params).In h₀ → News h₀ L s.heap news → Top topProg LS mean mg mb h₀ → cs.kind = .function →
    pre → dp + kd < recursionLimit → un + ku < cLine → Ret h₀ L m s Q →
      wpAny (model P0 w) (ktrTop dp un gd cn cs L a ccd cl outer) (call (.ref f) vs) Q E s
abbrev RetV (news : List (Addr × Obj)) (R : Tok → Value) : Heap → Addr → (Str → Option Value) → Shared → (Value → Shared → Prop) → Prop :=
  fun h₀ L m s Q => ∀ (t : Tok) (h' : Heap) (tk' : Nat), Fr h₀ L h' m → News h₀ L h' news → Q (R t) { s with heap := h', toks := tk' }
/-- `_v` as a function of floats -/
def vF (m1 m2 hue : UInt64) : UInt64 :=
  let x := (Float64.divmod hue 4607182418800017408).snd
  if (Float64.cmp x 4595172819793696085 == some Ordering.lt) = true then Float64.add m1 (Float64.mul (Float64.mul (Float64.sub m2 m1) x) 4618441417868443648)
  else if (Float64.cmp x 4602678819172646912 == some Ordering.lt) = true then m2
  else if (Float64.cmp x 4604180019048437077 == some Ordering.lt) = true then Float64.add m1 (Float64.mul (Float64.mul (Float64.sub m2 m1) (Float64.sub 4604180019048437077 x)) 4618441417868443648)
  else m1
abbrev tup3 (x y z : UInt64) (t1 t2 t3 : Tok) : Obj := { cls := Value.type "tuple", data := Data.seq #[Value.float x t1, Value.float y t2, Value.float z t3] }
abbrev RetT3 (news : List (Addr × Obj)) (x y z : UInt64) : Heap → Addr → (Str → Option Value) → Shared → (Value → Shared → Prop) → Prop :=
  fun h₀ L m s Q => ∀ (d : Addr) (t1 t2 t3 : Tok) (h' : Heap) (tk' : Nat), Fr h₀ L h' m → News h₀ L h' ((d, tup3 x y z t1 t2 t3) :: news) → Q (.ref d) { s with heap := h', toks := tk' }
abbrev leB (x y : UInt64) : Bool := Float64.cmp x y == some Ordering.lt || Float64.cmp x y == some Ordering.eq
def hlsM2 (l s : UInt64) : UInt64 := if leB l 4602678819172646912 = true then Float64.mul l (Float64.add 4607182418800017408 s) else Float64.sub (Float64.add l s) (Float64.mul l s)
def hlsM1 (l s : UInt64) : UInt64 := Float64.sub (Float64.mul 4611686018427387904 l) (hlsM2 l s)
def hsvI (h : UInt64) : Int := Flt.toInt Float64.truncOf (Float64.mul h 4618441417868443648)
def hsvF (h : UInt64) : UInt64 := Float64.sub (Float64.mul h 4618441417868443648) (Float64.ofInt (hsvI h))
def hsvP (s v : UInt64) : UInt64 := Float64.mul v (Float64.sub 4607182418800017408 s)
def hsvQ (s v f : UInt64) : UInt64 := Float64.mul v (Float64.sub 4607182418800017408 (Float64.mul s f))
def hsvT (s v f : UInt64) : UInt64 := Float64.mul v (Float64.sub 4607182418800017408 (Float64.mul s (Float64.sub 4607182418800017408 f)))
def pick6 (i : Int) (a b c d e f : UInt64) : UInt64 := if i = 0 then a else if i = 1 then b else if i = 2 then c else if i = 3 then d else if i = 4 then e else f
def hsvR (h s v : UInt64) : UInt64 := pick6 ((hsvI h).fmod 6) v (hsvQ s v (hsvF h)) (hsvP s v) (hsvP s v) (hsvT s v (hsvF h)) v
def hsvG (h s v : UInt64) : UInt64 := pick6 ((hsvI h).fmod 6) (hsvT s v (hsvF h)) v v (hsvQ s v (hsvF h)) (hsvP s v) (hsvP s v)
def hsvB (h s v : UInt64) : UInt64 := pick6 ((hsvI h).fmod 6) (hsvP s v) (hsvP s v) (hsvT s v (hsvF h)) v v (hsvQ s v (hsvF h))
def nearB (x : UInt64) (d : Int) : Bool := Float64.cmp (Float64.abs (Float64.sub x (Float64.ofInt d))) 4562254508917369340 == some Ordering.lt
end Mine
end
section -- CtrK
open PySem PySem.W PySem.Calls PyProof.Rows
namespace Mine
/-- a contract that says that all that stood in the heap stands as it stood -/
abbrev CtrK (w : World) (kd ku : Nat) (f : Addr) (vs : List Value) (pre : Heap → Prop) (Ret : Shared → (Value → Shared → Prop) → Prop) : Prop :=
  ∀ (mean : ExcName → Option Value) (mg mb : Str → Option Value) (dp un : Nat) (gd : Option (List Code)) (cn : Str) (cs : Scope) (a : Addr) (ccd : Value) (cl : List (Str × Addr)) (outer : List Env) (A₀ : Around) (base h₀ : Heap) (L : Addr) (m : Str → Option Value) (s : Shared) (Q E : Value → Shared → Prop),
    Below A₀ base outer h₀ → Fr h₀ L s.heap m → (hd.heap_1 w.params).In h₀ → Top topProg LS mean mg mb h₀ → cs.kind = .function →
    pre s.heap → dp + kd < recursionLimit → un + ku < cLine → Ret s Q →
      wpAny (model P0 w) (ktrTop dp un gd cn cs L a ccd cl outer) (call (.ref f) vs) Q E s
abbrev Keep (h h' : Heap) : Prop := ∀ b o, h.get? b = some o → h'.get? b = some o
abbrev RetKV (R : Tok → Value) : Shared → (Value → Shared → Prop) → Prop :=
  fun s Q => ∀ (t : Tok) (h' : Heap) (tk' : Nat), Keep s.heap h' → Q (R t) { s with heap := h', toks := tk' }
/-- the def is entered over the whole heap: the ground of the new frame is the heap at the call -/
theorem enterP {prog : Program} {w : World} {A₀ A : Around} {s : Shared} {base h₀ : Heap} {K : Frag} {p : Program} {loose : List Str} {mean : ExcName → Option Value} {mg mb : Str → Option Value} {L : Addr} {m : Str → Option Value} {env : Env} {outer : List Env} {R : Result → Shared → Prop} {name qual : Str} {params : Arguments} {body : List Stmt} {scope : Scope} {dV kV doc pm cdv ct oc : Value} {an od : Option Addr} {osl : Array (Option Value)} {f : Addr} {args : Args} {binds : List (Str × Value)}
    (B : Below A₀ base outer h₀) (F : Fr h₀ L s.heap m) (X₀ : K.In h₀) (T : Top p loose mean mg mb h₀) (hA : A.frames = some (env :: outer)) (hf : env.frame = some L) (hke : env.scope.kind = .function)
    (ho : K.lookup f = some ⟨oc, od, .func (fnOf name qual params body scope dV kV doc pm an cdv ct), osl⟩) (hcd : codeIn K cdv qual = true) (hroom : A.depth < recursionLimit)
    (hbind : BindsTo s (fnOf name qual params body scope dV kV doc pm an cdv ct) args binds) (hloc : ∀ y ∈ binds, scope.names.lookup y.1 = some .local)
    (h : ∀ L' h₁, Fr s.heap L' h₁ (fun y => binds.reverse.lookup y) → News s.heap L' h₁ [] → Below A base (env :: outer) s.heap → K.In s.heap → Top p loose mean mg mb s.heap →
      wpAny (model prog w) (A.deeper (envOf qual scope L' f cdv)) (execs body (envOf qual scope L' f cdv))
        (fun fl s' => R (.ok (.ret (match fl with | .ret v => v | _ => .none))) s')
        (fun e s' => wpAny (model prog w) (A.deeper (envOf qual scope L' f cdv)) (leaving (envOf qual scope L' f cdv) e) (fun _ s'' => R (.error e) s'') (fun e' s'' => R (.error e') s'') s')
        { s with heap := h₁, toks := s.toks + binds.length })
    (hco : scope.isCoroutine = false) (hgen : scope.isGenerator = false) (hk : scope.kind = .function)
    (hcell : ∀ x ∈ scope.names, x.2 ≠ .cell) : codeAny (model prog w) A (.call (.ref f) args) R s := by
  obtain ⟨_, BG, _, _⟩ := groundX (R := R) B F (News.nil) hA hf hke
  refine codeAny_call_def (fd := fnX name qual params body scope [] dV kV doc pm an cdv ct) (body := body) (binds := binds) hroom ((X₀.keeps F.keep) _ _ ho) rfl (T.nolimit.keeps F.keep) (codeRec_of (X₀.keeps F.keep) hcd) rfl hbind hcell hloc (fun h₁ hns hk₁ => ?_) hco hgen hk
  exact h s.heap.objs.size h₁ ⟨hns, hk₁, Nat.le_refl _⟩ News.nil BG (X₀.keeps F.keep) (T.keeps F.keep)
/-- the same for a def with cells -/
theorem enterPC {prog : Program} {w : World} {A₀ A : Around} {s : Shared} {base h₀ : Heap} {K : Frag} {p : Program} {loose : List Str} {mean : ExcName → Option Value} {mg mb : Str → Option Value} {L : Addr} {m : Str → Option Value} {env : Env} {outer : List Env} {R : Result → Shared → Prop} {name qual : Str} {params : Arguments} {body : List Stmt} {scope : Scope} {dV kV doc pm cdv ct oc : Value} {an od : Option Addr} {osl : Array (Option Value)} {f : Addr} {args : Args} {binds : List (Str × Value)}
    (B : Below A₀ base outer h₀) (F : Fr h₀ L s.heap m) (X₀ : K.In h₀) (T : Top p loose mean mg mb h₀) (hA : A.frames = some (env :: outer)) (hf : env.frame = some L) (hke : env.scope.kind = .function)
    (ho : K.lookup f = some ⟨oc, od, .func (fnOf name qual params body scope dV kV doc pm an cdv ct), osl⟩) (hcd : codeIn K cdv qual = true) (hroom : A.depth < recursionLimit)
    (hbind : BindsTo s (fnOf name qual params body scope dV kV doc pm an cdv ct) args binds) (hkind : (binds.all fun y => scope.names.lookup y.1 == some .local || scope.names.lookup y.1 == some .cell) = true)
    (hnd : ((cellsFrom 0 scope.names []).map (·.1)).Nodup)
    (h : ∀ L' h₁ tk cells, Fr s.heap L' h₁ (bindL (envOfC qual scope L' f cdv).kindOf binds fun _ => none) → News s.heap L' h₁ cells →
      CellsAre (bindC (envOfC qual scope L' f cdv).kindOf binds fun _ => none) (cellsFrom (L' + 1) scope.names []) cells → Below A base (env :: outer) s.heap → K.In s.heap → Top p loose mean mg mb s.heap →
      wpAny (model prog w) (A.deeper (envOfC qual scope L' f cdv)) (execs body (envOfC qual scope L' f cdv))
        (fun fl s' => R (.ok (.ret (match fl with | .ret v => v | _ => .none))) s')
        (fun e s' => wpAny (model prog w) (A.deeper (envOfC qual scope L' f cdv)) (leaving (envOfC qual scope L' f cdv) e) (fun _ s'' => R (.error e) s'') (fun e' s'' => R (.error e') s'') s')
        { s with heap := h₁, toks := tk })
    (hco : scope.isCoroutine = false) (hgen : scope.isGenerator = false) (hk : scope.kind = .function) : codeAny (model prog w) A (.call (.ref f) args) R s := by
  obtain ⟨_, BG, _, _⟩ := groundX (R := R) B F (News.nil) hA hf hke
  refine codeAny_call_function hroom ((X₀.keeps F.keep) _ _ ho) rfl hco hgen rfl (codeRec_of (X₀.keeps F.keep) hcd) (hbind _ _ _ _ ?_)
  refine wpAny_newFunctionEnv_cells hk (kindsX hkind _) fun env' he s' x => ?_
  subst he
  refine ⟨(T.nolimit.keeps F.keep).keeps x.toInCall.keep, codeAny_func ?_⟩
  obtain ⟨h₁, tk, rfl, _⟩ := x.done
  have hk₁ := x.toInCall.keep
  obtain ⟨cells, NC, Y⟩ := Cl.news (h₀ := s.heap) (Nat.le_refl _) fun n c hm => ⟨x.cell n c (lookup_of_mem_nodup (cellsFrom_names scope.names 0 (s.heap.objs.size + 1) [] [] rfl ▸ hnd) hm), x.above n c hm⟩
  exact h s.heap.objs.size h₁ tk cells ⟨x.toInCall.ns, hk₁, Nat.le_refl _⟩ NC Y BG (X₀.keeps F.keep) (T.keeps F.keep)
/-- what a caller's frame and ledger have of a contract's end -/
theorem frKeep {h₀ h h' : Heap} {L : Addr} {m : Str → Option Value} (F : Fr h₀ L h m) (k : Keep h h') : Fr h₀ L h' m := F.grownK k
theorem newsKeep {h₀ h h' : Heap} {L : Addr} {news : List (Addr × Obj)} (N : News h₀ L h news) (k : Keep h h') : News h₀ L h' news := N.grown k
theorem newsKeep1 {h₀ h h' : Heap} {L d : Addr} {m : Str → Option Value} {o : Obj} {news : List (Addr × Obj)} (F : Fr h₀ L h m) (N : News h₀ L h news) (k : Keep h h') (hn : h.get? d = none) (ho : h'.get? d = some o) : News h₀ L h' ((d, o) :: news) := by
  intro p hp
  rcases List.mem_cons.mp hp with rfl | hp
  · obtain ⟨oL, _, _, hL, _⟩ := F.ns
    refine ⟨ho, fun e => ?_, ?_⟩
    · have e' : d = L := e
      rw [e', hL] at hn; cases hn
    · cases q : h₀.get? d with
      | none => rfl
      | some o' => have := F.keep _ _ q; rw [this] at hn; cases hn
  · exact newsKeep N k p hp
end Mine
end
section -- CtrT
open PySem PySem.W PySem.Calls PyProof.Rows
namespace Mine
abbrev KeepBut (as : List Addr) (h h' : Heap) : Prop := ∀ b o, b ∉ as → h.get? b = some o → h'.get? b = some o
/-- a contract over a ledger that is handed on: all else is kept -/
abbrev CtrT (w : World) (kd ku : Nat) (f : Addr) (news : List (Addr × Obj)) (vs : List Value) (pre : Heap → Prop) (Ret : Heap → Shared → (Value → Shared → Prop) → Prop) : Prop :=
  ∀ (mean : ExcName → Option Value) (mg mb : Str → Option Value) (dp un : Nat) (gd : Option (List Code)) (cn : Str) (cs : Scope) (a : Addr) (ccd : Value) (cl : List (Str × Addr)) (outer : List Env) (A₀ : Around) (base h₀ : Heap) (L : Addr) (m : Str → Option Value) (s : Shared) (Q E : Value → Shared → Prop),
    Below A₀ base outer h₀ → Fr h₀ L s.heap m → (hd.heap_1 w.params).In h₀ → News h₀ L s.heap news → Top topProg LS mean mg mb h₀ → cs.kind = .function → CodeHd h₀ 69 65 → CodeHd h₀ 76 72 →
    pre s.heap → dp + kd < recursionLimit → un + ku < cLine → Ret (hideAll s.heap (news.map (·.1))) s Q →
      wpAny (model P0 w) (ktrTop dp un gd cn cs L a ccd cl outer) (call (.ref f) vs) Q E s
section
variable {prog : Program} {w : World} {A₀ A : Around} {s : Shared} {base h₀ : Heap} {K : Frag} {p : Program} {loose : List Str} {mean : ExcName → Option Value} {mg mb : Str → Option Value} {L : Addr} {m : Str → Option Value} {env : Env} {outer : List Env} {R : Result → Shared → Prop} {name qual : Str} {params : Arguments} {body : List Stmt} {scope : Scope} {dV kV doc pm cdv ct oc : Value} {an od : Option Addr} {osl : Array (Option Value)} {f : Addr} {args : Args} {binds : List (Str × Value)} {news : List (Addr × Obj)}
theorem enterT
    (B : Below A₀ base outer h₀) (F : Fr h₀ L s.heap m) (X₀ : K.In h₀) (N : News h₀ L s.heap news) (T : Top p loose mean mg mb h₀) (hA : A.frames = some (env :: outer)) (hf : env.frame = some L) (hke : env.scope.kind = .function)
    (ho : K.lookup f = some ⟨oc, od, .func (fnOf name qual params body scope dV kV doc pm an cdv ct), osl⟩) (hcd : codeIn K cdv qual = true) (hroom : A.depth < recursionLimit)
    (hbind : BindsTo s (fnOf name qual params body scope dV kV doc pm an cdv ct) args binds) (hloc : ∀ y ∈ binds, scope.names.lookup y.1 = some .local)
    (C1 : CodeHd h₀ 69 65) (C2 : CodeHd h₀ 76 72)
    (h : ∀ L' h₁, Fr (hideAll s.heap (news.map (·.1))) L' h₁ (fun y => binds.reverse.lookup y) → News (hideAll s.heap (news.map (·.1))) L' h₁ news → Below A base (env :: outer) (hideAll s.heap (news.map (·.1))) → K.In (hideAll s.heap (news.map (·.1))) → Top p loose mean mg mb (hideAll s.heap (news.map (·.1))) →
      CodeHd (hideAll s.heap (news.map (·.1))) 69 65 → CodeHd (hideAll s.heap (news.map (·.1))) 76 72 → (∀ p ∈ news, p.1 < L') →
      wpAny (model prog w) (A.deeper (envOf qual scope L' f cdv)) (execs body (envOf qual scope L' f cdv))
        (fun fl s' => R (.ok (.ret (match fl with | .ret v => v | _ => .none))) s')
        (fun e s' => wpAny (model prog w) (A.deeper (envOf qual scope L' f cdv)) (leaving (envOf qual scope L' f cdv) e) (fun _ s'' => R (.error e) s'') (fun e' s'' => R (.error e') s'') s')
        { s with heap := h₁, toks := s.toks + binds.length })
    (hco : scope.isCoroutine = false) (hgen : scope.isGenerator = false) (hk : scope.kind = .function)
    (hcell : ∀ x ∈ scope.names, x.2 ≠ .cell) : codeAny (model prog w) A (.call (.ref f) args) R s := by
  obtain ⟨_, BG, st, _⟩ := groundX (R := R) B F N hA hf hke
  refine codeAny_call_def (fd := fnX name qual params body scope [] dV kV doc pm an cdv ct) (body := body) (binds := binds) hroom ((X₀.keeps F.keep) _ _ ho) rfl (T.nolimit.keeps F.keep) (codeRec_of (X₀.keeps F.keep) hcd) rfl hbind hcell hloc (fun h₁ hns hk₁ => ?_) hco hgen hk
  exact h s.heap.objs.size h₁ ⟨hns, fun b o e => hk₁ b o (of_hideAll _ e), Nat.le_of_eq (hideAll_size _ _)⟩ (fun p hp => ⟨hk₁ _ _ (N p hp).1, Nat.ne_of_lt (Heap.lt_size (N p hp).1), hideAll_none _ (List.mem_map_of_mem hp)⟩) BG (X₀.keeps st) (T.keeps st) (C1.keeps st) (C2.keeps st) (fun p hp => Heap.lt_size (N p hp).1)
theorem enterTC
    (B : Below A₀ base outer h₀) (F : Fr h₀ L s.heap m) (X₀ : K.In h₀) (N : News h₀ L s.heap news) (T : Top p loose mean mg mb h₀) (hA : A.frames = some (env :: outer)) (hf : env.frame = some L) (hke : env.scope.kind = .function)
    (ho : K.lookup f = some ⟨oc, od, .func (fnOf name qual params body scope dV kV doc pm an cdv ct), osl⟩) (hcd : codeIn K cdv qual = true) (hroom : A.depth < recursionLimit)
    (hbind : BindsTo s (fnOf name qual params body scope dV kV doc pm an cdv ct) args binds) (hkind : (binds.all fun y => scope.names.lookup y.1 == some .local || scope.names.lookup y.1 == some .cell) = true)
    (hnd : ((cellsFrom 0 scope.names []).map (·.1)).Nodup)
    (C1 : CodeHd h₀ 69 65) (C2 : CodeHd h₀ 76 72)
    (h : ∀ L' h₁ tk cells, Fr (hideAll s.heap (news.map (·.1))) L' h₁ (bindL (envOfC qual scope L' f cdv).kindOf binds fun _ => none) → News (hideAll s.heap (news.map (·.1))) L' h₁ (cells ++ news) →
      CellsAre (bindC (envOfC qual scope L' f cdv).kindOf binds fun _ => none) (cellsFrom (L' + 1) scope.names []) cells → Below A base (env :: outer) (hideAll s.heap (news.map (·.1))) → K.In (hideAll s.heap (news.map (·.1))) → Top p loose mean mg mb (hideAll s.heap (news.map (·.1))) →
      CodeHd (hideAll s.heap (news.map (·.1))) 69 65 → CodeHd (hideAll s.heap (news.map (·.1))) 76 72 → (∀ p ∈ news, p.1 < L') →
      wpAny (model prog w) (A.deeper (envOfC qual scope L' f cdv)) (execs body (envOfC qual scope L' f cdv))
        (fun fl s' => R (.ok (.ret (match fl with | .ret v => v | _ => .none))) s')
        (fun e s' => wpAny (model prog w) (A.deeper (envOfC qual scope L' f cdv)) (leaving (envOfC qual scope L' f cdv) e) (fun _ s'' => R (.error e) s'') (fun e' s'' => R (.error e') s'') s')
        { s with heap := h₁, toks := tk })
    (hco : scope.isCoroutine = false) (hgen : scope.isGenerator = false) (hk : scope.kind = .function) : codeAny (model prog w) A (.call (.ref f) args) R s := by
  obtain ⟨_, BG, st, _⟩ := groundX (R := R) B F N hA hf hke
  refine codeAny_call_function hroom ((X₀.keeps F.keep) _ _ ho) rfl hco hgen rfl (codeRec_of (X₀.keeps F.keep) hcd) (hbind _ _ _ _ ?_)
  refine wpAny_newFunctionEnv_cells hk (kindsX hkind _) fun env' he s' x => ?_
  subst he
  refine ⟨(T.nolimit.keeps F.keep).keeps x.toInCall.keep, codeAny_func ?_⟩
  obtain ⟨h₁, tk, rfl, _⟩ := x.done
  have hk₁ := x.toInCall.keep
  obtain ⟨cells, NC, Y⟩ := Cl.news (h₀ := s.heap) (Nat.le_refl _) fun n c hm => ⟨x.cell n c (lookup_of_mem_nodup (cellsFrom_names scope.names 0 (s.heap.objs.size + 1) [] [] rfl ▸ hnd) hm), x.above n c hm⟩
  refine h s.heap.objs.size h₁ tk cells ⟨x.toInCall.ns, fun b o e => hk₁ b o (of_hideAll _ e), Nat.le_of_eq (hideAll_size _ _)⟩ (fun p hp => ?_) Y BG (X₀.keeps st) (T.keeps st) (C1.keeps st) (C2.keeps st) (fun p hp => Heap.lt_size (N p hp).1)
  rcases List.mem_append.mp hp with hp | hp
  · refine ⟨(NC p hp).1, (NC p hp).2.1, ?_⟩
    cases q : (hideAll s.heap (news.map (·.1))).get? p.1 with
    | none => rfl
    | some o => have := of_hideAll _ q; rw [(NC p hp).2.2] at this; cases this
  · exact ⟨hk₁ _ _ (N p hp).1, Nat.ne_of_lt (Heap.lt_size (N p hp).1), hideAll_none _ (List.mem_map_of_mem hp)⟩
end
end Mine
end
section -- CtrN
open PySem PySem.W PySem.Calls PyProof.Rows
namespace Mine
/-- a contract of a made function (a closure of the ledger): as CtrT, no address written -/
abbrev CtrF (w : World) (kd ku : Nat) (f : Addr) (news : List (Addr × Obj)) (vs : List Value) (pre : Prop) (Ret : Heap → Shared → (Value → Shared → Prop) → Prop) : Prop :=
  ∀ (mean : ExcName → Option Value) (mg mb : Str → Option Value) (dp un : Nat) (gd : Option (List Code)) (cn : Str) (cs : Scope) (a : Addr) (ccd : Value) (cl : List (Str × Addr)) (outer : List Env) (A₀ : Around) (base h₀ : Heap) (L : Addr) (m : Str → Option Value) (s : Shared) (Q E : Value → Shared → Prop),
    Below A₀ base outer h₀ → Fr h₀ L s.heap m → (hd.heap_1 w.params).In h₀ → News h₀ L s.heap news → Top topProg LS mean mg mb h₀ → cs.kind = .function → (∃ c P, CodeHd h₀ c P) →
    pre → dp + kd < recursionLimit → un + ku < cLine → Ret (hideAll s.heap (news.map (·.1))) s Q →
      wpAny (model P0 w) (ktrTop dp un gd cn cs L a ccd cl outer) (call (.ref f) vs) Q E s
section
variable {prog : Program} {w : World} {A₀ A : Around} {s : Shared} {base h₀ : Heap} {K : Frag} {p : Program} {loose : List Str} {mean : ExcName → Option Value} {mg mb : Str → Option Value} {L : Addr} {m : Str → Option Value} {env : Env} {outer : List Env} {R : Result → Shared → Prop} {name qual : Str} {params : Arguments} {body : List Stmt} {scope : Scope} {cl : List (Str × Addr)} {doc pm ctv : Value} {c' : Addr} {f : Addr} {args : Args} {binds : List (Str × Value)} {news : List (Addr × Obj)}
theorem enterN
    (B : Below A₀ base outer h₀) (F : Fr h₀ L s.heap m) (X₀ : K.In h₀) (N : News h₀ L s.heap news) (T : Top p loose mean mg mb h₀) (hA : A.frames = some (env :: outer)) (hf : env.frame = some L) (hke : env.scope.kind = .function)
    (ho : (f, fnMade name qual params body scope cl doc pm c' ctv) ∈ news) (hcd : s.heap.CodeRec (.ref c') qual) (hroom : A.depth < recursionLimit)
    (hbind : BindsTo s (fnX name qual params body scope cl .none .none doc pm none (.ref c') ctv) args binds) (hloc : ∀ y ∈ binds, scope.names.lookup y.1 = some .local)
    (h : ∀ L' h₁, Fr (hideAll s.heap (news.map (·.1))) L' h₁ (fun y => binds.reverse.lookup y) → News (hideAll s.heap (news.map (·.1))) L' h₁ news → Below A base (env :: outer) (hideAll s.heap (news.map (·.1))) → K.In (hideAll s.heap (news.map (·.1))) → Top p loose mean mg mb (hideAll s.heap (news.map (·.1))) →
      h₀.StaysIn (hideAll s.heap (news.map (·.1))) → (∀ p ∈ news, p.1 < L') →
      wpAny (model prog w) (A.deeper (envX qual scope L' f (.ref c') cl)) (execs body (envX qual scope L' f (.ref c') cl))
        (fun fl s' => R (.ok (.ret (match fl with | .ret v => v | _ => .none))) s')
        (fun e s' => wpAny (model prog w) (A.deeper (envX qual scope L' f (.ref c') cl)) (leaving (envX qual scope L' f (.ref c') cl) e) (fun _ s'' => R (.error e) s'') (fun e' s'' => R (.error e') s'') s')
        { s with heap := h₁, toks := s.toks + binds.length })
    (hco : scope.isCoroutine = false) (hgen : scope.isGenerator = false) (hk : scope.kind = .function)
    (hcell : ∀ x ∈ scope.names, x.2 ≠ .cell) : codeAny (model prog w) A (.call (.ref f) args) R s := by
  obtain ⟨_, BG, st, _⟩ := groundX (R := R) B F N hA hf hke
  refine codeAny_call_def (fd := fnX name qual params body scope cl .none .none doc pm none (.ref c') ctv) (body := body) (binds := binds) hroom (N _ ho).1 rfl (T.nolimit.keeps F.keep) hcd rfl hbind hcell hloc (fun h₁ hns hk₁ => ?_) hco hgen hk
  exact h s.heap.objs.size h₁ ⟨hns, fun b o e => hk₁ b o (of_hideAll _ e), Nat.le_of_eq (hideAll_size _ _)⟩ (fun p hp => ⟨hk₁ _ _ (N p hp).1, Nat.ne_of_lt (Heap.lt_size (N p hp).1), hideAll_none _ (List.mem_map_of_mem hp)⟩) BG (X₀.keeps st) (T.keeps st) st (fun p hp => Heap.lt_size (N p hp).1)
end
/-- name an object of the ledger's head -/
theorem nameNews {P : Prop} {h₀ h : Heap} {L a : Addr} {o : Obj} {rest : List (Addr × Obj)} (N : News h₀ L h ((a, o) :: rest)) (k : ∀ o', o = o' → News h₀ L h ((a, o') :: rest) → P) : P := k o rfl N
end Mine
end
section -- Kset
open PySem PySem.W PySem.Calls PyProof.Rows
namespace Mine
section
variable {prog : Program} {w : World} {A : Around} {E : Value → Shared → Prop} {s : Shared} {h₀ : Heap} {L D : Addr} {m : Str → Option Value} {news news' : List (Addr × Obj)} {its : Array Value} {n : Nat} {k : Int} {t : Tok} {v : Value}
/-- an item of a list of the ledger stored at an int in bounds -/
theorem setItem_U {Q : Unit → Shared → Prop} (F : Fr h₀ L s.heap m) (Nw : News h₀ L s.heap news) (U : Upd D (W.listOf its n) (W.listOf (its.setIfInBounds k.toNat v) n) news news') (h0 : 0 ≤ k) (h1 : k < its.size) (h2 : its.size ≤ 1000)
    (h : ∀ h', Fr h₀ L h' m → News h₀ L h' news' → Q () { s with heap := h' }) : wpAny (model prog w) A (setItem (.ref D) (.int k t) v) Q E s := by
  obtain ⟨pre, post, rfl, rfl, a, b⟩ := U.split
  have z := Nw (D, W.listOf its n) (List.mem_append.mpr (.inr (.head _)))
  refine ki_setAt z.1 h0 (by omega) (by omega) (h _ (F.change (Heap.SameBut.update ..) z.2.1 z.2.2) (ki_turn _ Nw a b rfl ?_))
  rw [if_pos (by simp)]
end
end Mine
end
section -- KdigM
open PySem PySem.W PySem.Calls PyProof.Rows
namespace Mine
theorem nat_low (y S : Nat) : (y &&& (y / 2 ^ S * 2 ^ S)) = y / 2 ^ S * 2 ^ S := by
  have h : ∀ i, (y / 2 ^ S * 2 ^ S).testBit i = (decide (S ≤ i) && y.testBit i) := by
    intro i
    rw [Nat.testBit_mul_two_pow, Nat.testBit_div_two_pow]
    by_cases hi : S ≤ i
    · simp [hi, Nat.sub_add_cancel hi]
    · simp [hi]
  apply Nat.eq_of_testBit_eq; intro i; rw [Nat.testBit_and, h]; cases decide (S ≤ i) <;> cases y.testBit i <;> rfl
theorem bitAnd_nat (a b : Nat) : Builtin.bitAnd (a : Int) (b : Int) = ((a &&& b : Nat) : Int) := by
  unfold Builtin.bitAnd
  rw [decide_eq_true (Int.natCast_nonneg a), decide_eq_true (Int.natCast_nonneg b)]
  simp
theorem xor_low (y : Int) (S : Nat) (h0 : 0 ≤ y) : Builtin.bitXor y (y.fdiv (2 ^ S) * 2 ^ S) = y % 2 ^ S := by
  obtain ⟨k, rfl⟩ := Int.eq_ofNat_of_zero_le h0
  have e : ((k : Int).fdiv (2 ^ S) * 2 ^ S) = ((k / 2 ^ S * 2 ^ S : Nat) : Int) := by
    rw [Int.fdiv_eq_ediv_of_nonneg _ (Int.le_of_lt (Int.pow_pos (by decide)))]
    simp
  rw [e, bitXor_and, bitAnd_nat, nat_low]
  have h3 := Nat.div_add_mod k (2 ^ S)
  rw [Nat.mul_comm] at h3
  have e3 : ((k : Int) % 2 ^ S) = ((k % 2 ^ S : Nat) : Int) := by simp
  rw [e3]
  omega
/-- the digits of y, n bits each, stand at l .. l + k -/
def Filled (its its' : Array Value) (l : Int) (k : Nat) (y n : Int) : Prop :=
  its'.size = its.size ∧ (∀ j : Nat, ((j : Int) < l ∨ l + k ≤ (j : Int)) → its'[j]? = its[j]?) ∧ ∀ i : Nat, i < k → ∃ t, its'[l.toNat + i]? = some (.int (y / 2 ^ (n.toNat * i) % 2 ^ n.toNat) t)
theorem filled_one {its : Array Value} {l y n : Int} {t : Tok} (h0 : 0 ≤ l) (h1 : l < its.size) (hy : 0 ≤ y) (hy1 : y < 2 ^ (n.toNat * 1)) : Filled its (its.setIfInBounds l.toNat (.int y t)) l 1 y n := by
  refine ⟨by simp, fun j hj => ?_, fun i hi => ⟨t, ?_⟩⟩
  · rw [Array.getElem?_setIfInBounds_ne (by omega)]
  · have : i = 0 := by omega
    subst this
    have hl : l.toNat < its.size := by omega
    have e : y / 2 ^ (n.toNat * 0) % 2 ^ n.toNat = y := by
      rw [Nat.mul_zero, Int.pow_zero, Int.ediv_one]
      exact Int.emod_eq_of_lt hy (by simpa using hy1)
    rw [e]
    simp [hl]
theorem filled_two {its its1 its2 : Array Value} {l y n : Int} {h k : Nat} (h0 : 0 ≤ l) (hk : h ≤ k) (hy : 0 ≤ y)
    (A : Filled its its1 l h (y % 2 ^ (n.toNat * h)) n) (B : Filled its1 its2 (l + h) (k - h) (y / 2 ^ (n.toNat * h)) n) : Filled its its2 l k y n := by
  obtain ⟨a1, a2, a3⟩ := A
  obtain ⟨b1, b2, b3⟩ := B
  refine ⟨b1.trans a1, fun j hj => ?_, fun i hi => ?_⟩
  · rw [b2 j (by omega), a2 j (by omega)]
  · by_cases c : i < h
    · obtain ⟨t, e⟩ := a3 i c
      refine ⟨t, ?_⟩
      rw [b2 (l.toNat + i) (by omega), e]
      congr 2
      obtain ⟨z, rfl⟩ := Int.eq_ofNat_of_zero_le hy
      have q : (z % 2 ^ (n.toNat * h) / 2 ^ (n.toNat * i) % 2 ^ n.toNat : Nat) = z / 2 ^ (n.toNat * i) % 2 ^ n.toNat := by
        apply Nat.eq_of_testBit_eq
        intro j
        have e1 : n.toNat * (i + 1) ≤ n.toNat * h := Nat.mul_le_mul_left _ c
        rw [Nat.testBit_mod_two_pow, Nat.testBit_mod_two_pow, Nat.testBit_div_two_pow, Nat.testBit_div_two_pow, Nat.testBit_mod_two_pow]
        by_cases hj : j < n.toNat
        · have : j + n.toNat * i < n.toNat * h := by rw [Nat.mul_add] at e1; omega
          simp [hj, this]
        · simp [hj]
      have q' := congrArg (Nat.cast (R := Int)) q
      simpa using q'
    · obtain ⟨t, e⟩ := b3 (i - h) (by omega)
      refine ⟨t, ?_⟩
      have ei : (l + (h : Int)).toNat + (i - h) = l.toNat + i := by omega
      rw [← ei, e]
      congr 2
      obtain ⟨z, rfl⟩ := Int.eq_ofNat_of_zero_le hy
      have q : (z / 2 ^ (n.toNat * h) / 2 ^ (n.toNat * (i - h)) : Nat) = z / 2 ^ (n.toNat * i) := by
        rw [Nat.div_div_eq_div_mul, ← Nat.pow_add, ← Nat.mul_add]
        congr 3; omega
      have q' := congrArg (Nat.cast (R := Int)) q
      have : (z : Int) / 2 ^ (n.toNat * h) / 2 ^ (n.toNat * (i - h)) = (z : Int) / 2 ^ (n.toNat * i) := by simpa using q'
      rw [this]
end Mine
end
section -- Kmulk
open PySem PySem.W PyProof.Rows
namespace Mine
section
variable {prog : Program} {w : World} {A : Around} {E : Value → Shared → Prop} {s : Shared} {h₀ : Heap} {L : Addr} {m : Str → Option Value} {news : List (Addr × Obj)} {l : Addr} {v : Value} {x : Int} {u : Tok} {Q : Value → Shared → Prop}
/-- a list of one item times an int that is known to be k -/
theorem mulRep {k : Nat} {ws : List Value} (Fm : Fr h₀ L s.heap m) (N : News h₀ L s.heap news) (hl : s.heap.IsList l [v].toArray) (hx : x = (k : Int)) (hk : k ≤ 200) (e : List.replicate k v = ws)
    (h : ∀ D h', Fr h₀ L h' m → News h₀ L h' ((D, W.listOf ws.toArray 0) :: news) → (∀ p ∈ news, p.1 < D) → Q (.ref D) { s with heap := h' }) : wpAny (model prog w) A (binaryOp .Mult (.ref l) (.int x u)) Q E s := by
  subst hx e
  refine KMa.mul Fm N hl (by omega) (by omega) (by simp; omega) ?_ h
  rw [Int.toNat_natCast]
  clear h
  induction k with
  | zero => rfl
  | succ k ih => rw [List.replicate_succ, List.replicate_succ, List.flatten_cons, ih (by omega)]; rfl
end
end Mine
end
section -- Ki2d
theorem Mine.wTopOff3 : True := by w_top off; trivial
local macro_rules | `(tactic| walk_at "no such line") => `(tactic| fail)
local macro_rules | `(tactic| walk_at "no such line") => `(tactic| fail)
local macro_rules | `(tactic| walk_at "no such line") => `(tactic| fail)
local macro_rules | `(tactic| walk_at "no such line") => `(tactic| fail)
local macro_rules | `(tactic| walk_at "no such line") => `(tactic| fail)
local macro_rules | `(tactic| walk_at "no such line") => `(tactic| fail)
local macro_rules | `(tactic| walk_at "no such line") => `(tactic| fail)
local macro_rules | `(tactic| walk_at "no such line") => `(tactic| fail)
local macro_rules | `(tactic| walk_at "no such line") => `(tactic| fail)
local macro_rules | `(tactic| walk_at "no such line") => `(tactic| fail)
local macro_rules | `(tactic| walk_at "no such line") => `(tactic| fail)
local macro_rules | `(tactic| walk_at "no such line") => `(tactic| fail)
local macro_rules | `(tactic| walk_at "no such line") => `(tactic| fail)
local macro_rules | `(tactic| walk_at "no such line") => `(tactic| fail)
local macro_rules | `(tactic| walk_at "no such line") => `(tactic| fail)
local macro_rules | `(tactic| walk_at "no such line") => `(tactic| fail)
local macro_rules | `(tactic| walk_at "no such line") => `(tactic| fail)
local macro_rules | `(tactic| walk_at "no such line") => `(tactic| fail)
local macro_rules | `(tactic| walk_at "no such line") => `(tactic| fail)
local macro_rules | `(tactic| walk_at "no such line") => `(tactic| fail)
local macro_rules | `(tactic| walk_at "no such line") => `(tactic| fail)
local macro_rules | `(tactic| walk_at "no such line") => `(tactic| fail)
local macro_rules | `(tactic| walk_at "no such line") => `(tactic| fail)
local macro_rules | `(tactic| walk_at "no such line") => `(tactic| fail)
local macro_rules | `(tactic| walk_at "no such line") => `(tactic| fail)
local macro_rules | `(tactic| walk_at "no such line") => `(tactic| fail)
local macro_rules | `(tactic| walk_at "no such line") => `(tactic| fail)
local macro_rules | `(tactic| walk_at "no such line") => `(tactic| fail)
local macro_rules | `(tactic| walk_at "no such line") => `(tactic| fail)
local macro_rules | `(tactic| walk_at "no such line") => `(tactic| fail)
local macro_rules | `(tactic| walk_at "no such line") => `(tactic| fail)
local macro_rules | `(tactic| walk_at "no such line") => `(tactic| fail)
local macro_rules | `(tactic| walk_at "no such line") => `(tactic| fail)
local macro_rules | `(tactic| walk_at "no such line") => `(tactic| fail)
local macro_rules | `(tactic| walk_at "no such line") => `(tactic| fail)
local macro_rules | `(tactic| walk_at "no such line") => `(tactic| fail)
local macro_rules | `(tactic| walk_at "no such line") => `(tactic| fail)
local macro_rules | `(tactic| walk_at "no such line") => `(tactic| fail)
local macro_rules | `(tactic| walk_at "no such line") => `(tactic| fail)
local macro_rules | `(tactic| walk_at "no such line") => `(tactic| fail)
local macro_rules | `(tactic| walk_at "no such line") => `(tactic| fail)
local macro_rules | `(tactic| walk_at "no such line") => `(tactic| fail)
local macro_rules | `(tactic| walk_at "no such line") => `(tactic| fail)
local macro_rules | `(tactic| walk_at "no such line") => `(tactic| fail)
local macro_rules | `(tactic| walk_at "no such line") => `(tactic| fail)
local macro_rules | `(tactic| walk_at "no such line") => `(tactic| fail)
local macro_rules | `(tactic| walk_at "no such line") => `(tactic| fail)
local macro_rules | `(tactic| walk_at "no such line") => `(tactic| fail)
local macro_rules | `(tactic| walk_at "no such line") => `(tactic| fail)
local macro_rules | `(tactic| walk_at "no such line") => `(tactic| fail)
local macro_rules | `(tactic| walk_at "eval BinOp") => `(tactic| (k_here; k_dflt (refine' Mine.pev_ok ?F ?e ?c ?k ?_; (case F => k_asm); (case e => exact rfl); (case c => (repeat (first | exact trivial | refine And.intro (by mul_fits) ?_))); (case k => rfl); k_whole)))
local macro_rules | `(tactic| walk_at "spliced") => `(tactic| (k_here; k_dflt (refine' Mine.args_ok ?F ?k ?e ?c ?_; (case F => k_asm); (case k => rfl); (case e => exact rfl); (case c => (repeat (first | exact trivial | refine And.intro (by mul_fits) ?_))); k_whole)))
local macro_rules | `(tactic| walk_at "isTrue Compare") => `(tactic| (k_here; k_dflt (refine' Mine.cmp_ok ?F ?e ?c ?k ?n ?_; (case F => k_asm); (case e => exact rfl); (case c => (repeat (first | exact trivial | refine And.intro (by mul_fits) ?_))); (case k => rfl); (case n => rfl); k_whole)))
local macro_rules | `(tactic| walk_at "exec Assign") => `(tactic| (k_here; k_dflt (refine' Mine.assign_ok ?F ?N ?e ?c ?k ?x ?s ?_; (case F => k_asm); (case N => k_asm); (case e => exact rfl); (case c => (repeat (first | exact trivial | refine And.intro (by mul_fits) ?_))); (case k => rfl); (case x => rfl); (case s => rfl); k_whole; intro h' m' F' N'; (try k_sweep))))
local macro_rules | `(tactic| walk_at "exec Return some") => `(tactic| (k_here; k_dflt (refine' Mine.ret_ok ?F ?e ?c ?k ?_; (case F => k_asm); (case e => exact rfl); (case c => (repeat (first | exact trivial | refine And.intro (by mul_fits) ?_))); (case k => rfl); k_whole)))
local macro_rules | `(tactic| walk_at "storeName") => `(tactic| (k_here; k_dflt (refine' Mine.storeY_L ?F ?N ?_ ?a ?b; (case F => k_asm); (case N => k_asm); (case a => rfl); (case b => rfl); k_whole; intro h' m' F' N'; (try k_sweep))))
local macro_rules | `(tactic| k_steps) => `(tactic| repeat' (first | dsimp only | (k_unfold; (try dsimp only)) | (k_end; wrow_close) | walk1 | (dsimp only; walk1) | (leave1; walk_say "STEP leave1"; try dsimp only) | fail "no step"))
local macro_rules | `(tactic| k_ne) => `(tactic| (refine PySem.W.neN ?_; (try dsimp only); first
  | with_reducible assumption
  | ((with_reducible refine Nat.ne_of_lt ?_); (repeat with_reducible refine Mine.nzLT ?_); (first | with_reducible assumption | exact Mine.nzA1 (by with_reducible assumption) | exact Mine.nzA2 (by with_reducible assumption) | exact Mine.nzZ2 (by with_reducible assumption) | exact Mine.nzA3 (by with_reducible assumption) | exact Mine.nzZ3 (by with_reducible assumption) | exact Mine.nzA4 (by with_reducible assumption) | exact Mine.nzZ4 (by with_reducible assumption) | exact Mine.nzA5 (by with_reducible assumption) | exact Mine.nzZ5 (by with_reducible assumption) | exact Mine.nzA6 (by with_reducible assumption) | exact Mine.nzZ6 (by with_reducible assumption) | exact Mine.nzA7 (by with_reducible assumption) | exact Mine.nzZ7 (by with_reducible assumption) | exact Mine.nzA8 (by with_reducible assumption) | exact Mine.nzZ8 (by with_reducible assumption) | exact Mine.nzA9 (by with_reducible assumption) | exact Mine.nzZ9 (by with_reducible assumption) | exact Mine.nzA10 (by with_reducible assumption) | exact Mine.nzZ10 (by with_reducible assumption) | exact Mine.nzA11 (by with_reducible assumption) | exact Mine.nzZ11 (by with_reducible assumption) | exact Mine.nzA12 (by with_reducible assumption) | exact Mine.nzZ12 (by with_reducible assumption) | exact Mine.nzA13 (by with_reducible assumption) | exact Mine.nzZ13 (by with_reducible assumption) | exact Mine.nzA14 (by with_reducible assumption) | exact Mine.nzZ14 (by with_reducible assumption) | exact Mine.nzA15 (by with_reducible assumption) | exact Mine.nzZ15 (by with_reducible assumption) | exact Mine.nzA16 (by with_reducible assumption) | exact Mine.nzZ16 (by with_reducible assumption)))
  | ((with_reducible refine Nat.ne_of_gt ?_); (repeat with_reducible refine Mine.nzLT ?_); (first | with_reducible assumption | exact Mine.nzA1 (by with_reducible assumption) | exact Mine.nzA2 (by with_reducible assumption) | exact Mine.nzZ2 (by with_reducible assumption) | exact Mine.nzA3 (by with_reducible assumption) | exact Mine.nzZ3 (by with_reducible assumption) | exact Mine.nzA4 (by with_reducible assumption) | exact Mine.nzZ4 (by with_reducible assumption) | exact Mine.nzA5 (by with_reducible assumption) | exact Mine.nzZ5 (by with_reducible assumption) | exact Mine.nzA6 (by with_reducible assumption) | exact Mine.nzZ6 (by with_reducible assumption) | exact Mine.nzA7 (by with_reducible assumption) | exact Mine.nzZ7 (by with_reducible assumption) | exact Mine.nzA8 (by with_reducible assumption) | exact Mine.nzZ8 (by with_reducible assumption) | exact Mine.nzA9 (by with_reducible assumption) | exact Mine.nzZ9 (by with_reducible assumption) | exact Mine.nzA10 (by with_reducible assumption) | exact Mine.nzZ10 (by with_reducible assumption) | exact Mine.nzA11 (by with_reducible assumption) | exact Mine.nzZ11 (by with_reducible assumption) | exact Mine.nzA12 (by with_reducible assumption) | exact Mine.nzZ12 (by with_reducible assumption) | exact Mine.nzA13 (by with_reducible assumption) | exact Mine.nzZ13 (by with_reducible assumption) | exact Mine.nzA14 (by with_reducible assumption) | exact Mine.nzZ14 (by with_reducible assumption) | exact Mine.nzA15 (by with_reducible assumption) | exact Mine.nzZ15 (by with_reducible assumption) | exact Mine.nzA16 (by with_reducible assumption) | exact Mine.nzZ16 (by with_reducible assumption)))
  | ((repeat with_reducible refine Mine.nzSS ?_); (first | with_reducible refine Mine.nzS0 ?_ | with_reducible refine Mine.nz0S ?_); (repeat (first | with_reducible exact Nat.le_refl _ | with_reducible refine Mine.nzLS ?_)); done)
  | (first | with_reducible assumption | exact Mine.nzA1 (by with_reducible assumption) | exact Mine.nzA2 (by with_reducible assumption) | exact Mine.nzZ2 (by with_reducible assumption) | exact Mine.nzA3 (by with_reducible assumption) | exact Mine.nzZ3 (by with_reducible assumption) | exact Mine.nzA4 (by with_reducible assumption) | exact Mine.nzZ4 (by with_reducible assumption) | exact Mine.nzA5 (by with_reducible assumption) | exact Mine.nzZ5 (by with_reducible assumption) | exact Mine.nzA6 (by with_reducible assumption) | exact Mine.nzZ6 (by with_reducible assumption) | exact Mine.nzA7 (by with_reducible assumption) | exact Mine.nzZ7 (by with_reducible assumption) | exact Mine.nzA8 (by with_reducible assumption) | exact Mine.nzZ8 (by with_reducible assumption) | exact Mine.nzA9 (by with_reducible assumption) | exact Mine.nzZ9 (by with_reducible assumption) | exact Mine.nzA10 (by with_reducible assumption) | exact Mine.nzZ10 (by with_reducible assumption) | exact Mine.nzA11 (by with_reducible assumption) | exact Mine.nzZ11 (by with_reducible assumption) | exact Mine.nzA12 (by with_reducible assumption) | exact Mine.nzZ12 (by with_reducible assumption) | exact Mine.nzA13 (by with_reducible assumption) | exact Mine.nzZ13 (by with_reducible assumption) | exact Mine.nzA14 (by with_reducible assumption) | exact Mine.nzZ14 (by with_reducible assumption) | exact Mine.nzA15 (by with_reducible assumption) | exact Mine.nzZ15 (by with_reducible assumption) | exact Mine.nzA16 (by with_reducible assumption) | exact Mine.nzZ16 (by with_reducible assumption))
  | (apply Ne.symm; (first | with_reducible assumption | exact Mine.nzA1 (by with_reducible assumption) | exact Mine.nzA2 (by with_reducible assumption) | exact Mine.nzZ2 (by with_reducible assumption) | exact Mine.nzA3 (by with_reducible assumption) | exact Mine.nzZ3 (by with_reducible assumption) | exact Mine.nzA4 (by with_reducible assumption) | exact Mine.nzZ4 (by with_reducible assumption) | exact Mine.nzA5 (by with_reducible assumption) | exact Mine.nzZ5 (by with_reducible assumption) | exact Mine.nzA6 (by with_reducible assumption) | exact Mine.nzZ6 (by with_reducible assumption) | exact Mine.nzA7 (by with_reducible assumption) | exact Mine.nzZ7 (by with_reducible assumption) | exact Mine.nzA8 (by with_reducible assumption) | exact Mine.nzZ8 (by with_reducible assumption) | exact Mine.nzA9 (by with_reducible assumption) | exact Mine.nzZ9 (by with_reducible assumption) | exact Mine.nzA10 (by with_reducible assumption) | exact Mine.nzZ10 (by with_reducible assumption) | exact Mine.nzA11 (by with_reducible assumption) | exact Mine.nzZ11 (by with_reducible assumption) | exact Mine.nzA12 (by with_reducible assumption) | exact Mine.nzZ12 (by with_reducible assumption) | exact Mine.nzA13 (by with_reducible assumption) | exact Mine.nzZ13 (by with_reducible assumption) | exact Mine.nzA14 (by with_reducible assumption) | exact Mine.nzZ14 (by with_reducible assumption) | exact Mine.nzA15 (by with_reducible assumption) | exact Mine.nzZ15 (by with_reducible assumption) | exact Mine.nzA16 (by with_reducible assumption) | exact Mine.nzZ16 (by with_reducible assumption)))
  | omega))
local macro_rules | `(tactic| k_lt $h:ident) => `(tactic| (replace $h := Mine.allLt1 $h; dsimp only [Mine.AllLt1, Mine.AllLtC] at $h:ident))
open PySem PySem.W PyProof.Rows
namespace Mine
set_option Elab.async false
local macro_rules | `(tactic| walk_at "binaryOp Mult ref int") => `(tactic| (k_here; (with_reducible show wpAny _ _ (binaryOp Operator.Mult (Value.ref _) (Value.int _ _)) _ _ _); k_dflt (refine' mulRep ?F ?N ?l ?hx ?hk ?e ?_; (case F => k_asm); (case N => k_asm); (case l => is_list); (case hx => assumption); (case hk => omega); (case e => exact rfl); k_whole); intro D' h' F' N' l1; (try k_lt l1); (try k_sweep)))
local macro_rules | `(tactic| walk_at "setItem ref int") => `(tactic| (k_here; (with_reducible show wpAny _ _ (setItem (Value.ref _) (Value.int _ _) _) _ _ _); k_dflt (refine' setItem_U ?F ?N ?U ?h0 ?h1 ?h2 ?_; (case F => k_asm); (case N => k_asm); (case U => k_upd); (case h0 => omega); (case h1 => omega); (case h2 => omega); k_whole); intro h' F' N'; (try k_sweep)))
local macro_rules | `(tactic| walk_at "call builtin:len") => `(tactic| (k_here; (with_reducible show wpAny _ _ (call (Value.builtin _) [Value.ref _]) _ _ _); k_dflt (refine' len_list ?l ?f ?_; (case l => is_list); (case f => (simp only [List.size_toArray, List.length_replicate]; omega)); k_whole)))
def DigsAre (its : Array Value) (x n : Int) (k : Nat) : Prop := its.size = k ∧ ∀ i : Nat, i < k → ∃ t, its[i]? = some (.int (x / 2 ^ (n.toNat * i) % 2 ^ n.toNat) t)
theorem DigsAre.of {its0 its : Array Value} {x n : Int} {k : Nat} (h : Filled its0 its 0 k x n) (h0 : its0.size = k) : DigsAre its x n k := by
  obtain ⟨a, _, c⟩ := h
  refine ⟨a.trans h0, fun i hi => ?_⟩
  obtain ⟨t, e⟩ := c i hi
  exact ⟨t, by simpa using e⟩
abbrev tab65 (c : Addr) : Obj := tabObj (#[] ++ #[rawInt ((101 : Nat) : Int), rawInt ((4 : Nat) : Int), Value.ref c])
def i2dQ : Str := Str.ofString "_int2digits.<locals>.inner"
set_option maxRecDepth 100000 in
set_option maxHeartbeats 8000000 in
theorem i2d_T0 (w : World) (T72 : Obj) (x n : Int) (k : Nat) (t1 t2 : Tok) (mean : ExcName → Option Value) (mg mb : Str → Option Value) (dp un : Nat) (gd : Option (List Code)) (cn : Str) (cs : Scope) (a : Addr) (ccd : Value) (cl : List (Str × Addr)) (outer : List Env) (A₀ : Around) (base h₀ : Heap) (L : Addr) (m : Str → Option Value) (s : Shared) (Q E : Value → Shared → Prop) :
    Below A₀ base outer h₀ → Fr h₀ L s.heap m → (hd.heap_1 w.params).In h₀ → News h₀ L s.heap [(65, tabObj #[]), (72, T72)] → Top topProg LS mean mg mb h₀ → cs.kind = .function → CodeHd h₀ 69 65 →
    (0 ≤ x ∧ x < 128 ∧ 0 < n ∧ n < 8 ∧ (↑(Builtin.Int.intBits x) + n - 1).fdiv n = (k : Int) ∧ k ≤ 7 ∧ x < 2 ^ (n.toNat * k) ∧ (x = 0 → k = 0) ∧ (x ≠ 0 → 0 < k)) → dp + 16 < recursionLimit → un + 160 < cLine →
    (∀ (d c : Addr) (oc : Obj) (vs : Array Value) (tq : Tok) (its : Array Value) (e : Nat) (hz : Heap) (tz : Nat), DigsAre its x n k → oc.data = .fields vs → vs[1]? = some (.str i2dQ tq) → Fr h₀ L hz m → News h₀ L hz [(d, W.listOf its e), (c, oc), (65, tab65 c), (72, T72)] → Q (.ref d) { s with heap := hz, toks := tz }) →
      wpAny (model P0 w) (ktrTop dp un gd cn cs L a ccd cl outer) (call (.ref 70) [.int x t1, .int n t2]) Q E s := by
  dsimp only [P0, LS]
  k_fill
  intro B F X N T hk C1 hpre hdp hun hret
  obtain ⟨hp1, hp2, hp3, hp4, hk3, hk7, hxk, hx0, hx1⟩ := hpre
  refine wpAny_call ?_
  k_dflt (refine' code_defC ?k1 ?k2 ?k3 ?k4 ?k5 ?kA ?kF ?kK ?k6 ?k7 ?k8 ?k9 ?kB ?kD ?_ ?c2 ?c3 ?c4; (case kA => exact rfl); (case kF => exact rfl); (case kK => assumption); (case k1 => k_asm); (case k2 => k_asm); (case k3 => k_asm); (case k4 => k_asm); (case k5 => k_asm); (case k6 => k_is); (case k7 => k_is); (case k8 => ktr_room); (case k9 => exact BindsTo.of_eq rfl); (case kB => exact rfl); (case kD => decide +kernel); (case c2 => exact rfl); (case c3 => exact rfl); (case c4 => exact rfl); k_whole; intro g' L' h' tk' cells' FG' F' N' Y' B' X' T' l1; (try k_lt l1); k_cells Y'; (try simp only [List.cons_append, List.nil_append] at N'); (try dsimp only); (try k_lift B'); (try k_fold))
  have C1g : CodeHd g' 69 65 := C1.keeps FG'.keep
  w_on
  k_steps
  · (with_reducible rename News _ _ _ _ => kN)
    refine nameNews kN (fun fo hfo kN => ?_)
    rename_i oA oB oN dA dB dN lq hq1 lz D' hq2 lD hq3 oD dD f' c' oc' vs' tq ctq dcq hq4 tkq dc1 dc2 lc lf hq5 oF F9 kN9 dF hx
    have dn : oN.data = Data.cell (some (Value.int n t2)) := dN
    clear dA dB dN kN9
    have key : ∀ (T65 T72 : Obj) (sz : Nat) (y l r : Int) (ty tl tr : Tok) (its : Array Value) (e : Nat)
        (mean : ExcName → Option Value) (mg mb : Str → Option Value) (dp un : Nat) (gd : Option (List Code)) (cn : Str) (cs : Scope) (a : Addr) (ccd : Value) (cl : List (Str × Addr)) (outer : List Env) (A₀ : Around) (base h₀ : Heap) (L : Addr) (m : Str → Option Value) (s : Shared) (Q E : Value → Shared → Prop),
        Below A₀ base outer h₀ → Fr h₀ L s.heap m → (hd.heap_1 w.params).In h₀ → News h₀ L s.heap [(f', fo), (c', oc'), (D', W.listOf its e), (lq, W.listOf #[Value.int 0 tk'] 0), (L' + 1 + 1 + 1, oF), (L' + 1 + 1, oD), (L' + 1, oN), (65, T65), (72, T72)] → Top topProg LS mean mg mb h₀ → cs.kind = .function → CodeHd h₀ 69 65 →
        (0 ≤ l ∧ r = l + sz ∧ 0 < sz ∧ r ≤ its.size ∧ 0 ≤ y ∧ y < 2 ^ (n.toNat * sz) ∧ sz ≤ 7 ∧ its.size ≤ 7 ∧ y < 128) → dp + (4 + sz) < recursionLimit → un + (40 + 8 * sz) < cLine →
        (∀ (its' : Array Value) (hz : Heap) (tz : Nat), Filled its its' l sz y n → Fr h₀ L hz m → News h₀ L hz [(f', fo), (c', oc'), (D', W.listOf its' e), (lq, W.listOf #[Value.int 0 tk'] 0), (L' + 1 + 1 + 1, oF), (L' + 1 + 1, oD), (L' + 1, oN), (65, T65), (72, T72)] → Q .none { s with heap := hz, toks := tz }) →
        wpAny (model P0 w) (ktrTop dp un gd cn cs L a ccd cl outer) (call (.ref f') [.int y ty, .int l tl, .int r tr]) Q E s := by
      clear hret kN F9 B' X' T' C1g C1 B F X N T FG'
      intro T65 T72 sz
      induction sz using Nat.strongRecOn with
      | ind sz IH =>
      intro y l r ty tl tr its e mean mg mb dp un gd cn cs a ccd cl outer A₀ base h₀ L m s Q E B F X N T hk C hpre hdp hun hret
      obtain ⟨hl0, hr, hs0, hri, hy0, hy1, hs7, hits, hy2⟩ := hpre
      have hmid : (l + r).fdiv (2 ^ Int.toNat 1) = l + ((sz / 2 : Nat) : Int) := by
        rw [show (2 : Int) ^ Int.toNat 1 = 2 from rfl, Int.fdiv_eq_ediv_of_nonneg _ (by decide)]
        omega
      have hshe : ((l + r).fdiv (2 ^ Int.toNat 1) - l) * n = ((sz / 2 : Nat) : Int) * n := by rw [hmid]; congr 1; omega
      have hsh0 : 0 ≤ ((l + r).fdiv (2 ^ Int.toNat 1) - l) * n := by rw [hshe]; exact Int.mul_nonneg (by omega) (by omega)
      have hsh1 : ((l + r).fdiv (2 ^ Int.toNat 1) - l) * n ≤ 21 := by
        rw [hshe]
        have e1 : ((sz / 2 : Nat) : Int) * n ≤ 3 * n := Int.mul_le_mul_of_nonneg_right (by omega) (by omega)
        omega
      have hup0 : 0 ≤ y.fdiv (2 ^ (((l + r).fdiv (2 ^ Int.toNat 1) - l) * n).toNat) := Int.fdiv_nonneg hy0 (Int.le_of_lt (Int.pow_pos (by decide)))
      have hup1 : y.fdiv (2 ^ (((l + r).fdiv (2 ^ Int.toNat 1) - l) * n).toNat) < 128 := by
        rw [Int.fdiv_eq_ediv_of_nonneg _ (Int.le_of_lt (Int.pow_pos (by decide)))]
        exact Int.lt_of_le_of_lt (Int.ediv_le_self _ hy0) hy2
      have hmid0 : 0 ≤ (l + r).fdiv (2 ^ Int.toNat 1) := by rw [hmid]; omega
      subst hfo
      refine wpAny_call ?_
      k_dflt (refine' code_nest ?k1 ?k2 ?k3 ?k4 ?k5 ?kA ?kF ?kK ?k6 ?k7 ?k8 ?k9 ?kB ?_ ?c2 ?c3 ?c4 ?c5; (case kA => exact rfl); (case kF => exact rfl); (case kK => assumption); (case k1 => k_asm); (case k2 => k_asm); (case k3 => k_asm); (case k4 => k_asm); (case k5 => k_asm); (case k6 => exact List.mem_cons_self); (case k7 => exact codeRec_news (by k_asm) (by k_mem) (by assumption) (by assumption)); (case k8 => ktr_room); (case k9 => exact BindsTo.of_eq rfl); (case c5 => decide); (case kB => exact locs rfl); (case c2 => exact rfl); (case c3 => exact rfl); (case c4 => exact rfl); k_whole; intro g' L' h' FG' F' N' B' X' T'; (try dsimp only); (try k_lift B'); (try k_fold))
      have C9 : CodeHd g' 69 65 := C.keeps FG'.keep
      have hS : (((l + r).fdiv (2 ^ Int.toNat 1) - l) * n).toNat = n.toNat * (sz / 2) := by
        rw [hshe, Int.toNat_mul (by omega) (by omega), Int.toNat_natCast, Nat.mul_comm]
      have hlow : Builtin.bitXor y (y.fdiv (2 ^ (((l + r).fdiv (2 ^ Int.toNat 1) - l) * n).toNat) * 2 ^ (((l + r).fdiv (2 ^ Int.toNat 1) - l) * n).toNat) = y % 2 ^ (n.toNat * (sz / 2)) := by rw [xor_low _ _ hy0, hS]
      have hlow0 : 0 ≤ y % 2 ^ (n.toNat * (sz / 2)) := Int.emod_nonneg _ (Int.ne_of_gt (Int.pow_pos (by decide)))
      have hlow1 : y % 2 ^ (n.toNat * (sz / 2)) < 2 ^ (n.toNat * (sz / 2)) := Int.emod_lt_of_pos _ (Int.pow_pos (by decide))
      have hlow2 : y % 2 ^ (n.toNat * (sz / 2)) < 128 := by
        have h1 := Int.mul_ediv_add_emod y (2 ^ (n.toNat * (sz / 2)))
        have h2 : 0 ≤ 2 ^ (n.toNat * (sz / 2)) * (y / 2 ^ (n.toNat * (sz / 2))) := Int.mul_nonneg (Int.le_of_lt (Int.pow_pos (by decide))) (Int.ediv_nonneg hy0 (Int.le_of_lt (Int.pow_pos (by decide))))
        generalize 2 ^ (n.toNat * (sz / 2)) * (y / 2 ^ (n.toNat * (sz / 2))) = q9 at h1 h2
        omega
      have hupe : y.fdiv (2 ^ (((l + r).fdiv (2 ^ Int.toNat 1) - l) * n).toNat) = y / 2 ^ (n.toNat * (sz / 2)) := by rw [hS, Int.fdiv_eq_ediv_of_nonneg _ (Int.le_of_lt (Int.pow_pos (by decide)))]
      have hup2 : y / 2 ^ (n.toNat * (sz / 2)) < 2 ^ (n.toNat * (sz - sz / 2)) := by
        apply Int.ediv_lt_of_lt_mul (Int.pow_pos (by decide))
        rw [← Int.pow_add, ← Nat.mul_add]
        have : sz - sz / 2 + sz / 2 = sz := by omega
        rw [this]; exact hy1
      k_with "call ref" => (k_here; (simp only [List.nil_append]); k_dflt (first
        | (refine' IH (sz / 2) (by omega) _ _ _ _ _ _ _ _ _ _ _ _ _ _ _ _ _ _ _ _ _ _ _ _ _ _ _ _ ?k1 ?k2 ?k3 ?k4 ?k5 ?k6 ?k7 ?k8 ?k9 ?k10 ?_; (case k1 => k_asm); (case k2 => k_asm); (case k3 => k_asm); (case k4 => k_asm); (case k5 => k_asm); (case k6 => exact rfl); (case k7 => k_asm); (case k8 => exact ⟨hl0, hmid, by omega, by omega, by rw [hlow]; exact hlow0, by rw [hlow]; exact hlow1, by omega, hits, by rw [hlow]; exact hlow2⟩); (case k9 => ktr_room); (case k10 => ktr_units); k_whole; intro its1 h1 tk1 hF1 F1 N1)
        | (refine' IH (sz - sz / 2) (by omega) _ _ _ _ _ _ _ _ _ _ _ _ _ _ _ _ _ _ _ _ _ _ _ _ _ _ _ _ ?k1 ?k2 ?k3 ?k4 ?k5 ?k6 ?k7 ?k8 ?k9 ?k10 ?_; (case k1 => k_asm); (case k2 => k_asm); (case k3 => k_asm); (case k4 => k_asm); (case k5 => k_asm); (case k6 => exact rfl); (case k7 => k_asm); (case k8 => exact ⟨hmid0, by omega, by omega, by rw [hF1.1]; exact hri, hup0, by rw [hupe]; exact hup2, by omega, by rw [hF1.1]; exact hits, hup1⟩); (case k9 => ktr_room); (case k10 => ktr_units); k_whole; intro its2 h2 tk2 hF2 F2 N2)); (try dsimp only); (try k_fold))
      k_steps
      · have e1 : sz = 1 := by omega
        subst e1
        exact hret _ _ _ (filled_one hl0 (by omega) hy0 hy1) (by assumption) (by assumption)
      · rw [hlow] at hF1
        rw [hupe, hmid] at hF2
        exact hret _ _ _ (filled_two hl0 (by omega) hy0 hF1 hF2) (by assumption) (by assumption)
    k_here
    (simp only [List.nil_append])
    k_dflt (refine' key _ _ k _ _ _ _ _ _ _ _ _ _ _ _ _ _ _ _ _ _ _ _ _ _ _ _ _ _ _ _ ?k1 ?k2 ?k3 ?k4 ?k5 ?k6 ?k7 ?k8 ?k9 ?k10 ?_; (case k1 => k_asm); (case k2 => k_asm); (case k3 => k_asm); (case k4 => k_asm); (case k5 => k_asm); (case k6 => exact rfl); (case k7 => k_asm); (case k8 => exact ⟨by omega, by simp, hx1 hx, by simp, hp1, hxk, hk7, by simpa using hk7, hp2⟩); (case k9 => ktr_room); (case k10 => ktr_units); k_whole; intro its1 h1 tk1 hF1 F1 N1)
    (try dsimp only)
    (try k_fold)
    clear key
    subst hfo
    k_steps
    exact hret _ _ _ _ _ _ _ _ _ (DigsAre.of hF1 (by simp)) dc1 dc2 (by assumption) (cb_drop (by assumption) (by kcj_all))
  · have e0 : x = 0 := by omega
    have e1 := hx0 e0
    (with_reducible rename Obj.data _ = Data.fields _ => dc1)
    refine hret _ _ _ _ _ _ _ _ _ ?_ dc1 (by assumption) (by assumption) (cb_drop (by assumption) (by kcj_all))
    exact ⟨by simp, fun i hi => by omega⟩
end Mine
end
section -- Ki2d1
theorem Mine.wTopOff4 : True := by w_top off; trivial
local macro_rules | `(tactic| walk_at "eval BinOp") => `(tactic| (k_here; k_dflt (refine' Mine.pev_ok ?F ?e ?c ?k ?_; (case F => k_asm); (case e => exact rfl); (case c => (repeat (first | exact trivial | refine And.intro (by mul_fits) ?_))); (case k => rfl); k_whole)))
local macro_rules | `(tactic| walk_at "spliced") => `(tactic| (k_here; k_dflt (refine' Mine.args_ok ?F ?k ?e ?c ?_; (case F => k_asm); (case k => rfl); (case e => exact rfl); (case c => (repeat (first | exact trivial | refine And.intro (by mul_fits) ?_))); k_whole)))
local macro_rules | `(tactic| walk_at "isTrue Compare") => `(tactic| (k_here; k_dflt (refine' Mine.cmp_ok ?F ?e ?c ?k ?n ?_; (case F => k_asm); (case e => exact rfl); (case c => (repeat (first | exact trivial | refine And.intro (by mul_fits) ?_))); (case k => rfl); (case n => rfl); k_whole)))
local macro_rules | `(tactic| walk_at "exec Assign") => `(tactic| (k_here; k_dflt (refine' Mine.assign_ok ?F ?N ?e ?c ?k ?x ?s ?_; (case F => k_asm); (case N => k_asm); (case e => exact rfl); (case c => (repeat (first | exact trivial | refine And.intro (by mul_fits) ?_))); (case k => rfl); (case x => rfl); (case s => rfl); k_whole; intro h' m' F' N'; (try k_sweep))))
local macro_rules | `(tactic| walk_at "exec Return some") => `(tactic| (k_here; k_dflt (refine' Mine.ret_ok ?F ?e ?c ?k ?_; (case F => k_asm); (case e => exact rfl); (case c => (repeat (first | exact trivial | refine And.intro (by mul_fits) ?_))); (case k => rfl); k_whole)))
local macro_rules | `(tactic| walk_at "storeName") => `(tactic| (k_here; k_dflt (refine' Mine.storeY_L ?F ?N ?_ ?a ?b; (case F => k_asm); (case N => k_asm); (case a => rfl); (case b => rfl); k_whole; intro h' m' F' N'; (try k_sweep))))
local macro_rules | `(tactic| k_steps) => `(tactic| repeat' (first | dsimp only | (k_unfold; (try dsimp only)) | (k_end; wrow_close) | walk1 | (dsimp only; walk1) | (leave1; walk_say "STEP leave1"; try dsimp only) | fail "no step"))
local macro_rules | `(tactic| k_ne) => `(tactic| (refine PySem.W.neN ?_; (try dsimp only); first
  | with_reducible assumption
  | ((with_reducible refine Nat.ne_of_lt ?_); (repeat with_reducible refine Mine.nzLT ?_); (first | with_reducible assumption | exact Mine.nzA1 (by with_reducible assumption) | exact Mine.nzA2 (by with_reducible assumption) | exact Mine.nzZ2 (by with_reducible assumption) | exact Mine.nzA3 (by with_reducible assumption) | exact Mine.nzZ3 (by with_reducible assumption) | exact Mine.nzA4 (by with_reducible assumption) | exact Mine.nzZ4 (by with_reducible assumption) | exact Mine.nzA5 (by with_reducible assumption) | exact Mine.nzZ5 (by with_reducible assumption) | exact Mine.nzA6 (by with_reducible assumption) | exact Mine.nzZ6 (by with_reducible assumption) | exact Mine.nzA7 (by with_reducible assumption) | exact Mine.nzZ7 (by with_reducible assumption) | exact Mine.nzA8 (by with_reducible assumption) | exact Mine.nzZ8 (by with_reducible assumption) | exact Mine.nzA9 (by with_reducible assumption) | exact Mine.nzZ9 (by with_reducible assumption) | exact Mine.nzA10 (by with_reducible assumption) | exact Mine.nzZ10 (by with_reducible assumption) | exact Mine.nzA11 (by with_reducible assumption) | exact Mine.nzZ11 (by with_reducible assumption) | exact Mine.nzA12 (by with_reducible assumption) | exact Mine.nzZ12 (by with_reducible assumption) | exact Mine.nzA13 (by with_reducible assumption) | exact Mine.nzZ13 (by with_reducible assumption) | exact Mine.nzA14 (by with_reducible assumption) | exact Mine.nzZ14 (by with_reducible assumption) | exact Mine.nzA15 (by with_reducible assumption) | exact Mine.nzZ15 (by with_reducible assumption) | exact Mine.nzA16 (by with_reducible assumption) | exact Mine.nzZ16 (by with_reducible assumption)))
  | ((with_reducible refine Nat.ne_of_gt ?_); (repeat with_reducible refine Mine.nzLT ?_); (first | with_reducible assumption | exact Mine.nzA1 (by with_reducible assumption) | exact Mine.nzA2 (by with_reducible assumption) | exact Mine.nzZ2 (by with_reducible assumption) | exact Mine.nzA3 (by with_reducible assumption) | exact Mine.nzZ3 (by with_reducible assumption) | exact Mine.nzA4 (by with_reducible assumption) | exact Mine.nzZ4 (by with_reducible assumption) | exact Mine.nzA5 (by with_reducible assumption) | exact Mine.nzZ5 (by with_reducible assumption) | exact Mine.nzA6 (by with_reducible assumption) | exact Mine.nzZ6 (by with_reducible assumption) | exact Mine.nzA7 (by with_reducible assumption) | exact Mine.nzZ7 (by with_reducible assumption) | exact Mine.nzA8 (by with_reducible assumption) | exact Mine.nzZ8 (by with_reducible assumption) | exact Mine.nzA9 (by with_reducible assumption) | exact Mine.nzZ9 (by with_reducible assumption) | exact Mine.nzA10 (by with_reducible assumption) | exact Mine.nzZ10 (by with_reducible assumption) | exact Mine.nzA11 (by with_reducible assumption) | exact Mine.nzZ11 (by with_reducible assumption) | exact Mine.nzA12 (by with_reducible assumption) | exact Mine.nzZ12 (by with_reducible assumption) | exact Mine.nzA13 (by with_reducible assumption) | exact Mine.nzZ13 (by with_reducible assumption) | exact Mine.nzA14 (by with_reducible assumption) | exact Mine.nzZ14 (by with_reducible assumption) | exact Mine.nzA15 (by with_reducible assumption) | exact Mine.nzZ15 (by with_reducible assumption) | exact Mine.nzA16 (by with_reducible assumption) | exact Mine.nzZ16 (by with_reducible assumption)))
  | ((repeat with_reducible refine Mine.nzSS ?_); (first | with_reducible refine Mine.nzS0 ?_ | with_reducible refine Mine.nz0S ?_); (repeat (first | with_reducible exact Nat.le_refl _ | with_reducible refine Mine.nzLS ?_)); done)
  | (first | with_reducible assumption | exact Mine.nzA1 (by with_reducible assumption) | exact Mine.nzA2 (by with_reducible assumption) | exact Mine.nzZ2 (by with_reducible assumption) | exact Mine.nzA3 (by with_reducible assumption) | exact Mine.nzZ3 (by with_reducible assumption) | exact Mine.nzA4 (by with_reducible assumption) | exact Mine.nzZ4 (by with_reducible assumption) | exact Mine.nzA5 (by with_reducible assumption) | exact Mine.nzZ5 (by with_reducible assumption) | exact Mine.nzA6 (by with_reducible assumption) | exact Mine.nzZ6 (by with_reducible assumption) | exact Mine.nzA7 (by with_reducible assumption) | exact Mine.nzZ7 (by with_reducible assumption) | exact Mine.nzA8 (by with_reducible assumption) | exact Mine.nzZ8 (by with_reducible assumption) | exact Mine.nzA9 (by with_reducible assumption) | exact Mine.nzZ9 (by with_reducible assumption) | exact Mine.nzA10 (by with_reducible assumption) | exact Mine.nzZ10 (by with_reducible assumption) | exact Mine.nzA11 (by with_reducible assumption) | exact Mine.nzZ11 (by with_reducible assumption) | exact Mine.nzA12 (by with_reducible assumption) | exact Mine.nzZ12 (by with_reducible assumption) | exact Mine.nzA13 (by with_reducible assumption) | exact Mine.nzZ13 (by with_reducible assumption) | exact Mine.nzA14 (by with_reducible assumption) | exact Mine.nzZ14 (by with_reducible assumption) | exact Mine.nzA15 (by with_reducible assumption) | exact Mine.nzZ15 (by with_reducible assumption) | exact Mine.nzA16 (by with_reducible assumption) | exact Mine.nzZ16 (by with_reducible assumption))
  | (apply Ne.symm; (first | with_reducible assumption | exact Mine.nzA1 (by with_reducible assumption) | exact Mine.nzA2 (by with_reducible assumption) | exact Mine.nzZ2 (by with_reducible assumption) | exact Mine.nzA3 (by with_reducible assumption) | exact Mine.nzZ3 (by with_reducible assumption) | exact Mine.nzA4 (by with_reducible assumption) | exact Mine.nzZ4 (by with_reducible assumption) | exact Mine.nzA5 (by with_reducible assumption) | exact Mine.nzZ5 (by with_reducible assumption) | exact Mine.nzA6 (by with_reducible assumption) | exact Mine.nzZ6 (by with_reducible assumption) | exact Mine.nzA7 (by with_reducible assumption) | exact Mine.nzZ7 (by with_reducible assumption) | exact Mine.nzA8 (by with_reducible assumption) | exact Mine.nzZ8 (by with_reducible assumption) | exact Mine.nzA9 (by with_reducible assumption) | exact Mine.nzZ9 (by with_reducible assumption) | exact Mine.nzA10 (by with_reducible assumption) | exact Mine.nzZ10 (by with_reducible assumption) | exact Mine.nzA11 (by with_reducible assumption) | exact Mine.nzZ11 (by with_reducible assumption) | exact Mine.nzA12 (by with_reducible assumption) | exact Mine.nzZ12 (by with_reducible assumption) | exact Mine.nzA13 (by with_reducible assumption) | exact Mine.nzZ13 (by with_reducible assumption) | exact Mine.nzA14 (by with_reducible assumption) | exact Mine.nzZ14 (by with_reducible assumption) | exact Mine.nzA15 (by with_reducible assumption) | exact Mine.nzZ15 (by with_reducible assumption) | exact Mine.nzA16 (by with_reducible assumption) | exact Mine.nzZ16 (by with_reducible assumption)))
  | omega))
local macro_rules | `(tactic| k_lt $h:ident) => `(tactic| (replace $h := Mine.allLt1 $h; dsimp only [Mine.AllLt1, Mine.AllLtC] at $h:ident))
open PySem PySem.W PyProof.Rows
namespace Mine
set_option Elab.async false
local macro_rules | `(tactic| walk_at "binaryOp Mult ref int") => `(tactic| (k_here; (with_reducible show wpAny _ _ (binaryOp Operator.Mult (Value.ref _) (Value.int _ _)) _ _ _); k_dflt (refine' mulRep ?F ?N ?l ?hx ?hk ?e ?_; (case F => k_asm); (case N => k_asm); (case l => is_list); (case hx => assumption); (case hk => omega); (case e => exact rfl); k_whole); intro D' h' F' N' l1; (try k_lt l1); (try k_sweep)))
local macro_rules | `(tactic| walk_at "setItem ref int") => `(tactic| (k_here; (with_reducible show wpAny _ _ (setItem (Value.ref _) (Value.int _ _) _) _ _ _); k_dflt (refine' setItem_U ?F ?N ?U ?h0 ?h1 ?h2 ?_; (case F => k_asm); (case N => k_asm); (case U => k_upd); (case h0 => omega); (case h1 => omega); (case h2 => omega); k_whole); intro h' F' N'; (try k_sweep)))
local macro_rules | `(tactic| walk_at "call builtin:len") => `(tactic| (k_here; (with_reducible show wpAny _ _ (call (Value.builtin _) [Value.ref _]) _ _ _); k_dflt (refine' len_list ?l ?f ?_; (case l => is_list); (case f => (simp only [List.size_toArray, List.length_replicate]; omega)); k_whole)))
theorem codeRec_at {h : Heap} {c : Addr} {oc : Obj} {vs : Array Value} {q : Str} {t : Tok} (ho : h.get? c = some oc) (hd : oc.data = .fields vs) (hv : vs[1]? = some (.str q t)) : h.CodeRec (.ref c) q :=
  ⟨_, _, vs, t, rfl, ho, hd, hv⟩
set_option maxRecDepth 100000 in
set_option maxHeartbeats 8000000 in
theorem i2d_T1 (w : World) (T72 : Obj) (c' : Addr) (oc' : Obj) (vs' : Array Value) (tq : Tok) (x n : Int) (k : Nat) (t1 t2 : Tok) (mean : ExcName → Option Value) (mg mb : Str → Option Value) (dp un : Nat) (gd : Option (List Code)) (cn : Str) (cs : Scope) (a : Addr) (ccd : Value) (cl : List (Str × Addr)) (outer : List Env) (A₀ : Around) (base h₀ : Heap) (L : Addr) (m : Str → Option Value) (s : Shared) (Q E : Value → Shared → Prop) :
    Below A₀ base outer h₀ → Fr h₀ L s.heap m → (hd.heap_1 w.params).In h₀ → News h₀ L s.heap [(65, tab65 c'), (72, T72)] → h₀.get? c' = some oc' → oc'.data = .fields vs' → vs'[1]? = some (.str i2dQ tq) → Top topProg LS mean mg mb h₀ → cs.kind = .function → CodeHd h₀ 69 65 →
    (0 ≤ x ∧ x < 128 ∧ 0 < n ∧ n < 8 ∧ (↑(Builtin.Int.intBits x) + n - 1).fdiv n = (k : Int) ∧ k ≤ 7 ∧ x < 2 ^ (n.toNat * k) ∧ (x = 0 → k = 0) ∧ (x ≠ 0 → 0 < k)) → dp + 16 < recursionLimit → un + 160 < cLine →
    (∀ (d : Addr) (its : Array Value) (e : Nat) (hz : Heap) (tz : Nat), DigsAre its x n k → Fr h₀ L hz m → News h₀ L hz [(d, W.listOf its e), (65, tab65 c'), (72, T72)] → Q (.ref d) { s with heap := hz, toks := tz }) →
      wpAny (model P0 w) (ktrTop dp un gd cn cs L a ccd cl outer) (call (.ref 70) [.int x t1, .int n t2]) Q E s := by
  dsimp only [P0, LS]
  k_fill
  intro B F X N hc1 dc1 dc2 T hk C1 hpre hdp hun hret
  obtain ⟨hp1, hp2, hp3, hp4, hk3, hk7, hxk, hx0, hx1⟩ := hpre
  refine wpAny_call ?_
  k_dflt (refine' code_defC ?k1 ?k2 ?k3 ?k4 ?k5 ?kA ?kF ?kK ?k6 ?k7 ?k8 ?k9 ?kB ?kD ?_ ?c2 ?c3 ?c4; (case kA => exact rfl); (case kF => exact rfl); (case kK => assumption); (case k1 => k_asm); (case k2 => k_asm); (case k3 => k_asm); (case k4 => k_asm); (case k5 => k_asm); (case k6 => k_is); (case k7 => k_is); (case k8 => ktr_room); (case k9 => exact BindsTo.of_eq rfl); (case kB => exact rfl); (case kD => decide +kernel); (case c2 => exact rfl); (case c3 => exact rfl); (case c4 => exact rfl); k_whole; intro g' L' h' tk' cells' FG' F' N' Y' B' X' T' l1; (try k_lt l1); k_cells Y'; (try simp only [List.cons_append, List.nil_append] at N'); (try dsimp only); (try k_lift B'); (try k_fold))
  have C1g : CodeHd g' 69 65 := C1.keeps FG'.keep
  have hccg : g'.get? c' = some oc' := FG'.keep _ _ hc1
  w_on
  k_steps
  · (with_reducible rename News _ _ _ _ => kN)
    refine nameNews kN (fun fo hfo kN => ?_)
    rename_i oA oB oN dA dB dN lq hq1 lz D' hq2 lD hq3 oD dD f' ctq dcq hq4 tkq lf hq5 oF F9 kN9 dF hx
    have dn : oN.data = Data.cell (some (Value.int n t2)) := dN
    clear dA dB dN kN9
    have key : ∀ (T65 T72 : Obj) (sz : Nat) (y l r : Int) (ty tl tr : Tok) (its : Array Value) (e : Nat)
        (mean : ExcName → Option Value) (mg mb : Str → Option Value) (dp un : Nat) (gd : Option (List Code)) (cn : Str) (cs : Scope) (a : Addr) (ccd : Value) (cl : List (Str × Addr)) (outer : List Env) (A₀ : Around) (base h₀ : Heap) (L : Addr) (m : Str → Option Value) (s : Shared) (Q E : Value → Shared → Prop),
        Below A₀ base outer h₀ → Fr h₀ L s.heap m → (hd.heap_1 w.params).In h₀ → News h₀ L s.heap [(f', fo), (D', W.listOf its e), (lq, W.listOf #[Value.int 0 tk'] 0), (L' + 1 + 1 + 1, oF), (L' + 1 + 1, oD), (L' + 1, oN), (65, T65), (72, T72)] → Top topProg LS mean mg mb h₀ → cs.kind = .function → CodeHd h₀ 69 65 → h₀.get? c' = some oc' →
        (0 ≤ l ∧ r = l + sz ∧ 0 < sz ∧ r ≤ its.size ∧ 0 ≤ y ∧ y < 2 ^ (n.toNat * sz) ∧ sz ≤ 7 ∧ its.size ≤ 7 ∧ y < 128) → dp + (4 + sz) < recursionLimit → un + (40 + 8 * sz) < cLine →
        (∀ (its' : Array Value) (hz : Heap) (tz : Nat), Filled its its' l sz y n → Fr h₀ L hz m → News h₀ L hz [(f', fo), (D', W.listOf its' e), (lq, W.listOf #[Value.int 0 tk'] 0), (L' + 1 + 1 + 1, oF), (L' + 1 + 1, oD), (L' + 1, oN), (65, T65), (72, T72)] → Q .none { s with heap := hz, toks := tz }) →
        wpAny (model P0 w) (ktrTop dp un gd cn cs L a ccd cl outer) (call (.ref f') [.int y ty, .int l tl, .int r tr]) Q E s := by
      clear hret kN F9 B' X' T' C1g C1 B F X N T FG' hccg hc1
      intro T65 T72 sz
      induction sz using Nat.strongRecOn with
      | ind sz IH =>
      intro y l r ty tl tr its e mean mg mb dp un gd cn cs a ccd cl outer A₀ base h₀ L m s Q E B F X N T hk C hcc hpre hdp hun hret
      obtain ⟨hl0, hr, hs0, hri, hy0, hy1, hs7, hits, hy2⟩ := hpre
      have hmid : (l + r).fdiv (2 ^ Int.toNat 1) = l + ((sz / 2 : Nat) : Int) := by
        rw [show (2 : Int) ^ Int.toNat 1 = 2 from rfl, Int.fdiv_eq_ediv_of_nonneg _ (by decide)]
        omega
      have hshe : ((l + r).fdiv (2 ^ Int.toNat 1) - l) * n = ((sz / 2 : Nat) : Int) * n := by rw [hmid]; congr 1; omega
      have hsh0 : 0 ≤ ((l + r).fdiv (2 ^ Int.toNat 1) - l) * n := by rw [hshe]; exact Int.mul_nonneg (by omega) (by omega)
      have hsh1 : ((l + r).fdiv (2 ^ Int.toNat 1) - l) * n ≤ 21 := by
        rw [hshe]
        have e1 : ((sz / 2 : Nat) : Int) * n ≤ 3 * n := Int.mul_le_mul_of_nonneg_right (by omega) (by omega)
        omega
      have hup0 : 0 ≤ y.fdiv (2 ^ (((l + r).fdiv (2 ^ Int.toNat 1) - l) * n).toNat) := Int.fdiv_nonneg hy0 (Int.le_of_lt (Int.pow_pos (by decide)))
      have hup1 : y.fdiv (2 ^ (((l + r).fdiv (2 ^ Int.toNat 1) - l) * n).toNat) < 128 := by
        rw [Int.fdiv_eq_ediv_of_nonneg _ (Int.le_of_lt (Int.pow_pos (by decide)))]
        exact Int.lt_of_le_of_lt (Int.ediv_le_self _ hy0) hy2
      have hmid0 : 0 ≤ (l + r).fdiv (2 ^ Int.toNat 1) := by rw [hmid]; omega
      subst hfo
      refine wpAny_call ?_
      k_dflt (refine' code_nest ?k1 ?k2 ?k3 ?k4 ?k5 ?kA ?kF ?kK ?k6 ?k7 ?k8 ?k9 ?kB ?_ ?c2 ?c3 ?c4 ?c5; (case kA => exact rfl); (case kF => exact rfl); (case kK => assumption); (case k1 => k_asm); (case k2 => k_asm); (case k3 => k_asm); (case k4 => k_asm); (case k5 => k_asm); (case k6 => exact List.mem_cons_self); (case k7 => exact codeRec_at (F.keep _ _ hcc) dc1 dc2); (case k8 => ktr_room); (case k9 => exact BindsTo.of_eq rfl); (case c5 => decide); (case kB => exact locs rfl); (case c2 => exact rfl); (case c3 => exact rfl); (case c4 => exact rfl); k_whole; intro g' L' h' FG' F' N' B' X' T'; (try dsimp only); (try k_lift B'); (try k_fold))
      have C9 : CodeHd g' 69 65 := C.keeps FG'.keep
      have hcc9 : g'.get? c' = some oc' := FG'.keep _ _ hcc
      have hS : (((l + r).fdiv (2 ^ Int.toNat 1) - l) * n).toNat = n.toNat * (sz / 2) := by
        rw [hshe, Int.toNat_mul (by omega) (by omega), Int.toNat_natCast, Nat.mul_comm]
      have hlow : Builtin.bitXor y (y.fdiv (2 ^ (((l + r).fdiv (2 ^ Int.toNat 1) - l) * n).toNat) * 2 ^ (((l + r).fdiv (2 ^ Int.toNat 1) - l) * n).toNat) = y % 2 ^ (n.toNat * (sz / 2)) := by rw [xor_low _ _ hy0, hS]
      have hlow0 : 0 ≤ y % 2 ^ (n.toNat * (sz / 2)) := Int.emod_nonneg _ (Int.ne_of_gt (Int.pow_pos (by decide)))
      have hlow1 : y % 2 ^ (n.toNat * (sz / 2)) < 2 ^ (n.toNat * (sz / 2)) := Int.emod_lt_of_pos _ (Int.pow_pos (by decide))
      have hlow2 : y % 2 ^ (n.toNat * (sz / 2)) < 128 := by
        have h1 := Int.mul_ediv_add_emod y (2 ^ (n.toNat * (sz / 2)))
        have h2 : 0 ≤ 2 ^ (n.toNat * (sz / 2)) * (y / 2 ^ (n.toNat * (sz / 2))) := Int.mul_nonneg (Int.le_of_lt (Int.pow_pos (by decide))) (Int.ediv_nonneg hy0 (Int.le_of_lt (Int.pow_pos (by decide))))
        generalize 2 ^ (n.toNat * (sz / 2)) * (y / 2 ^ (n.toNat * (sz / 2))) = q9 at h1 h2
        omega
      have hupe : y.fdiv (2 ^ (((l + r).fdiv (2 ^ Int.toNat 1) - l) * n).toNat) = y / 2 ^ (n.toNat * (sz / 2)) := by rw [hS, Int.fdiv_eq_ediv_of_nonneg _ (Int.le_of_lt (Int.pow_pos (by decide)))]
      have hup2 : y / 2 ^ (n.toNat * (sz / 2)) < 2 ^ (n.toNat * (sz - sz / 2)) := by
        apply Int.ediv_lt_of_lt_mul (Int.pow_pos (by decide))
        rw [← Int.pow_add, ← Nat.mul_add]
        have : sz - sz / 2 + sz / 2 = sz := by omega
        rw [this]; exact hy1
      k_with "call ref" => (k_here; (simp only [List.nil_append]); k_dflt (first
        | (refine' IH (sz / 2) (by omega) _ _ _ _ _ _ _ _ _ _ _ _ _ _ _ _ _ _ _ _ _ _ _ _ _ _ _ _ ?k1 ?k2 ?k3 ?k4 ?k5 ?k6 ?k7 ?kc ?k8 ?k9 ?k10 ?_; (case k1 => k_asm); (case k2 => k_asm); (case k3 => k_asm); (case k4 => k_asm); (case k5 => k_asm); (case k6 => exact rfl); (case k7 => k_asm); (case kc => assumption); (case k8 => exact ⟨hl0, hmid, by omega, by omega, by rw [hlow]; exact hlow0, by rw [hlow]; exact hlow1, by omega, hits, by rw [hlow]; exact hlow2⟩); (case k9 => ktr_room); (case k10 => ktr_units); k_whole; intro its1 h1 tk1 hF1 F1 N1)
        | (refine' IH (sz - sz / 2) (by omega) _ _ _ _ _ _ _ _ _ _ _ _ _ _ _ _ _ _ _ _ _ _ _ _ _ _ _ _ ?k1 ?k2 ?k3 ?k4 ?k5 ?k6 ?k7 ?kc ?k8 ?k9 ?k10 ?_; (case k1 => k_asm); (case k2 => k_asm); (case k3 => k_asm); (case k4 => k_asm); (case k5 => k_asm); (case k6 => exact rfl); (case k7 => k_asm); (case kc => assumption); (case k8 => exact ⟨hmid0, by omega, by omega, by rw [hF1.1]; exact hri, hup0, by rw [hupe]; exact hup2, by omega, by rw [hF1.1]; exact hits, hup1⟩); (case k9 => ktr_room); (case k10 => ktr_units); k_whole; intro its2 h2 tk2 hF2 F2 N2)); (try dsimp only); (try k_fold))
      k_steps
      · have e1 : sz = 1 := by omega
        subst e1
        exact hret _ _ _ (filled_one hl0 (by omega) hy0 hy1) (by assumption) (by assumption)
      · rw [hlow] at hF1
        rw [hupe, hmid] at hF2
        exact hret _ _ _ (filled_two hl0 (by omega) hy0 hF1 hF2) (by assumption) (by assumption)
    k_here
    (simp only [List.nil_append])
    k_dflt (refine' key _ _ k _ _ _ _ _ _ _ _ _ _ _ _ _ _ _ _ _ _ _ _ _ _ _ _ _ _ _ _ ?k1 ?k2 ?k3 ?k4 ?k5 ?k6 ?k7 ?kc ?k8 ?k9 ?k10 ?_; (case k1 => k_asm); (case k2 => k_asm); (case k3 => k_asm); (case k4 => k_asm); (case k5 => k_asm); (case k6 => exact rfl); (case k7 => k_asm); (case kc => assumption); (case k8 => exact ⟨by omega, by simp, hx1 hx, by simp, hp1, hxk, hk7, by simpa using hk7, hp2⟩); (case k9 => ktr_room); (case k10 => ktr_units); k_whole; intro its1 h1 tk1 hF1 F1 N1)
    (try dsimp only)
    (try k_fold)
    clear key
    subst hfo
    k_steps
    exact hret _ _ _ _ _ (DigsAre.of hF1 (by simp)) (by assumption) (cb_drop (by assumption) (by kcj_all))
  · have e0 : x = 0 := by omega
    have e1 := hx0 e0
    refine hret _ _ _ _ _ ?_ (by assumption) (cb_drop (by assumption) (by kcj_all))
    exact ⟨by simp, fun i hi => by omega⟩
end Mine
end
section -- KdvM
open PySem PySem.W PySem.Calls PyProof.Rows
namespace Mine
/-- the value of sz digits of n bits each from place l on -/
def dval (ns : List Int) (n : Nat) (l : Nat) : Nat → Int
  | 0 => 0
  | k + 1 => dval ns n l k + ns.getD (l + k) 0 * 2 ^ (n * k)
theorem dval_split (ns : List Int) (n l h : Nat) : ∀ k, dval ns n l (h + k) = dval ns n (l + h) k * 2 ^ (n * h) + dval ns n l h
  | 0 => by simp [dval]
  | k + 1 => by
    rw [← Nat.add_assoc, dval, dval_split ns n l h k, dval, Int.add_mul, Nat.mul_add, Int.pow_add, Nat.add_assoc]
    have e : ns.getD (l + (h + k)) 0 * (2 ^ (n * h) * 2 ^ (n * k)) = ns.getD (l + (h + k)) 0 * 2 ^ (n * k) * 2 ^ (n * h) := by rw [Int.mul_assoc, Int.mul_comm (2 ^ (n * h))]
    rw [e]
    omega
theorem dval_bound (ns : List Int) (n l : Nat) (hb : ∀ x ∈ ns, 0 ≤ x ∧ x < 2 ^ n) : ∀ k, l + k ≤ ns.length → 0 ≤ dval ns n l k ∧ dval ns n l k < 2 ^ (n * k)
  | 0, _ => by simp [dval]
  | k + 1, hk => by
    obtain ⟨h1, h2⟩ := dval_bound ns n l hb k (by omega)
    have hm : ns.getD (l + k) 0 ∈ ns := by
      have hlt : l + k < ns.length := by omega
      simp [List.getD_eq_getElem?_getD, List.getElem?_eq_getElem hlt]
    obtain ⟨h3, h4⟩ := hb _ hm
    rw [dval]
    generalize ns.getD (l + k) 0 = d at h3 h4
    have hp : (0 : Int) < 2 ^ (n * k) := Int.pow_pos (by decide)
    have e1 : 0 ≤ d * 2 ^ (n * k) := Int.mul_nonneg h3 (Int.le_of_lt hp)
    have e2 : (d + 1) * 2 ^ (n * k) ≤ 2 ^ n * 2 ^ (n * k) := Int.mul_le_mul_of_nonneg_right (by omega) (Int.le_of_lt hp)
    rw [Int.add_mul, Int.one_mul] at e2
    have e3 : (2 : Int) ^ (n * (k + 1)) = 2 ^ n * 2 ^ (n * k) := by rw [← Int.pow_add]; congr 1; rw [Nat.mul_add]; omega
    rw [e3]
    constructor <;> omega
theorem dval_small (ns : List Int) (n l k : Nat) (hb : ∀ x ∈ ns, 0 ≤ x ∧ x < 2 ^ n) (hk : l + k ≤ ns.length) (hn : n ≤ 7) (h7 : k ≤ 7) : 0 ≤ dval ns n l k ∧ dval ns n l k < 562949953421312 := by
  obtain ⟨h1, h2⟩ := dval_bound ns n l hb k hk
  refine ⟨h1, Int.lt_of_lt_of_le h2 ?_⟩
  have h3 : n * k ≤ 49 := Nat.le_trans (Nat.mul_le_mul hn h7) (by decide)
  have h4 : (2 : Nat) ^ (n * k) ≤ 2 ^ 49 := Nat.pow_le_pow_right (by decide) h3
  have h5 : (((2 : Nat) ^ (n * k) : Nat) : Int) ≤ ((2 ^ 49 : Nat) : Int) := Int.ofNat_le.mpr h4
  simpa using h5
end Mine
end
section -- Kd2i
theorem Mine.wTopOff5 : True := by w_top off; trivial
local macro_rules | `(tactic| walk_at "no such line") => `(tactic| fail)
local macro_rules | `(tactic| walk_at "no such line") => `(tactic| fail)
local macro_rules | `(tactic| walk_at "no such line") => `(tactic| fail)
local macro_rules | `(tactic| walk_at "no such line") => `(tactic| fail)
local macro_rules | `(tactic| walk_at "no such line") => `(tactic| fail)
local macro_rules | `(tactic| walk_at "no such line") => `(tactic| fail)
local macro_rules | `(tactic| walk_at "no such line") => `(tactic| fail)
local macro_rules | `(tactic| walk_at "no such line") => `(tactic| fail)
local macro_rules | `(tactic| walk_at "no such line") => `(tactic| fail)
local macro_rules | `(tactic| walk_at "no such line") => `(tactic| fail)
local macro_rules | `(tactic| walk_at "no such line") => `(tactic| fail)
local macro_rules | `(tactic| walk_at "no such line") => `(tactic| fail)
local macro_rules | `(tactic| walk_at "no such line") => `(tactic| fail)
local macro_rules | `(tactic| walk_at "no such line") => `(tactic| fail)
local macro_rules | `(tactic| walk_at "no such line") => `(tactic| fail)
local macro_rules | `(tactic| walk_at "no such line") => `(tactic| fail)
local macro_rules | `(tactic| walk_at "no such line") => `(tactic| fail)
local macro_rules | `(tactic| walk_at "no such line") => `(tactic| fail)
local macro_rules | `(tactic| walk_at "no such line") => `(tactic| fail)
local macro_rules | `(tactic| walk_at "no such line") => `(tactic| fail)
local macro_rules | `(tactic| walk_at "no such line") => `(tactic| fail)
local macro_rules | `(tactic| walk_at "no such line") => `(tactic| fail)
local macro_rules | `(tactic| walk_at "no such line") => `(tactic| fail)
local macro_rules | `(tactic| walk_at "no such line") => `(tactic| fail)
local macro_rules | `(tactic| walk_at "no such line") => `(tactic| fail)
local macro_rules | `(tactic| walk_at "eval BinOp") => `(tactic| (k_here; k_dflt (refine' Mine.pev_ok ?F ?e ?c ?k ?_; (case F => k_asm); (case e => exact rfl); (case c => (repeat (first | exact trivial | refine And.intro (by mul_fits) ?_))); (case k => rfl); k_whole)))
local macro_rules | `(tactic| walk_at "spliced") => `(tactic| (k_here; k_dflt (refine' Mine.args_ok ?F ?k ?e ?c ?_; (case F => k_asm); (case k => rfl); (case e => exact rfl); (case c => (repeat (first | exact trivial | refine And.intro (by mul_fits) ?_))); k_whole)))
local macro_rules | `(tactic| walk_at "isTrue Compare") => `(tactic| (k_here; k_dflt (refine' Mine.cmp_ok ?F ?e ?c ?k ?n ?_; (case F => k_asm); (case e => exact rfl); (case c => (repeat (first | exact trivial | refine And.intro (by mul_fits) ?_))); (case k => rfl); (case n => rfl); k_whole)))
local macro_rules | `(tactic| walk_at "exec Assign") => `(tactic| (k_here; k_dflt (refine' Mine.assign_ok ?F ?N ?e ?c ?k ?x ?s ?_; (case F => k_asm); (case N => k_asm); (case e => exact rfl); (case c => (repeat (first | exact trivial | refine And.intro (by mul_fits) ?_))); (case k => rfl); (case x => rfl); (case s => rfl); k_whole; intro h' m' F' N'; (try k_sweep))))
local macro_rules | `(tactic| walk_at "exec Return some") => `(tactic| (k_here; k_dflt (refine' Mine.ret_ok ?F ?e ?c ?k ?_; (case F => k_asm); (case e => exact rfl); (case c => (repeat (first | exact trivial | refine And.intro (by mul_fits) ?_))); (case k => rfl); k_whole)))
local macro_rules | `(tactic| walk_at "storeName") => `(tactic| (k_here; k_dflt (refine' Mine.storeY_L ?F ?N ?_ ?a ?b; (case F => k_asm); (case N => k_asm); (case a => rfl); (case b => rfl); k_whole; intro h' m' F' N'; (try k_sweep))))
local macro_rules | `(tactic| k_steps) => `(tactic| repeat' (first | dsimp only | (k_unfold; (try dsimp only)) | (k_end; wrow_close) | walk1 | (dsimp only; walk1) | (leave1; walk_say "STEP leave1"; try dsimp only) | fail "no step"))
local macro_rules | `(tactic| k_ne) => `(tactic| (refine PySem.W.neN ?_; (try dsimp only); first
  | with_reducible assumption
  | ((with_reducible refine Nat.ne_of_lt ?_); (repeat with_reducible refine Mine.nzLT ?_); (first | with_reducible assumption | exact Mine.nzA1 (by with_reducible assumption) | exact Mine.nzA2 (by with_reducible assumption) | exact Mine.nzZ2 (by with_reducible assumption) | exact Mine.nzA3 (by with_reducible assumption) | exact Mine.nzZ3 (by with_reducible assumption) | exact Mine.nzA4 (by with_reducible assumption) | exact Mine.nzZ4 (by with_reducible assumption) | exact Mine.nzA5 (by with_reducible assumption) | exact Mine.nzZ5 (by with_reducible assumption) | exact Mine.nzA6 (by with_reducible assumption) | exact Mine.nzZ6 (by with_reducible assumption) | exact Mine.nzA7 (by with_reducible assumption) | exact Mine.nzZ7 (by with_reducible assumption) | exact Mine.nzA8 (by with_reducible assumption) | exact Mine.nzZ8 (by with_reducible assumption) | exact Mine.nzA9 (by with_reducible assumption) | exact Mine.nzZ9 (by with_reducible assumption) | exact Mine.nzA10 (by with_reducible assumption) | exact Mine.nzZ10 (by with_reducible assumption) | exact Mine.nzA11 (by with_reducible assumption) | exact Mine.nzZ11 (by with_reducible assumption) | exact Mine.nzA12 (by with_reducible assumption) | exact Mine.nzZ12 (by with_reducible assumption) | exact Mine.nzA13 (by with_reducible assumption) | exact Mine.nzZ13 (by with_reducible assumption) | exact Mine.nzA14 (by with_reducible assumption) | exact Mine.nzZ14 (by with_reducible assumption) | exact Mine.nzA15 (by with_reducible assumption) | exact Mine.nzZ15 (by with_reducible assumption) | exact Mine.nzA16 (by with_reducible assumption) | exact Mine.nzZ16 (by with_reducible assumption)))
  | ((with_reducible refine Nat.ne_of_gt ?_); (repeat with_reducible refine Mine.nzLT ?_); (first | with_reducible assumption | exact Mine.nzA1 (by with_reducible assumption) | exact Mine.nzA2 (by with_reducible assumption) | exact Mine.nzZ2 (by with_reducible assumption) | exact Mine.nzA3 (by with_reducible assumption) | exact Mine.nzZ3 (by with_reducible assumption) | exact Mine.nzA4 (by with_reducible assumption) | exact Mine.nzZ4 (by with_reducible assumption) | exact Mine.nzA5 (by with_reducible assumption) | exact Mine.nzZ5 (by with_reducible assumption) | exact Mine.nzA6 (by with_reducible assumption) | exact Mine.nzZ6 (by with_reducible assumption) | exact Mine.nzA7 (by with_reducible assumption) | exact Mine.nzZ7 (by with_reducible assumption) | exact Mine.nzA8 (by with_reducible assumption) | exact Mine.nzZ8 (by with_reducible assumption) | exact Mine.nzA9 (by with_reducible assumption) | exact Mine.nzZ9 (by with_reducible assumption) | exact Mine.nzA10 (by with_reducible assumption) | exact Mine.nzZ10 (by with_reducible assumption) | exact Mine.nzA11 (by with_reducible assumption) | exact Mine.nzZ11 (by with_reducible assumption) | exact Mine.nzA12 (by with_reducible assumption) | exact Mine.nzZ12 (by with_reducible assumption) | exact Mine.nzA13 (by with_reducible assumption) | exact Mine.nzZ13 (by with_reducible assumption) | exact Mine.nzA14 (by with_reducible assumption) | exact Mine.nzZ14 (by with_reducible assumption) | exact Mine.nzA15 (by with_reducible assumption) | exact Mine.nzZ15 (by with_reducible assumption) | exact Mine.nzA16 (by with_reducible assumption) | exact Mine.nzZ16 (by with_reducible assumption)))
  | ((repeat with_reducible refine Mine.nzSS ?_); (first | with_reducible refine Mine.nzS0 ?_ | with_reducible refine Mine.nz0S ?_); (repeat (first | with_reducible exact Nat.le_refl _ | with_reducible refine Mine.nzLS ?_)); done)
  | (first | with_reducible assumption | exact Mine.nzA1 (by with_reducible assumption) | exact Mine.nzA2 (by with_reducible assumption) | exact Mine.nzZ2 (by with_reducible assumption) | exact Mine.nzA3 (by with_reducible assumption) | exact Mine.nzZ3 (by with_reducible assumption) | exact Mine.nzA4 (by with_reducible assumption) | exact Mine.nzZ4 (by with_reducible assumption) | exact Mine.nzA5 (by with_reducible assumption) | exact Mine.nzZ5 (by with_reducible assumption) | exact Mine.nzA6 (by with_reducible assumption) | exact Mine.nzZ6 (by with_reducible assumption) | exact Mine.nzA7 (by with_reducible assumption) | exact Mine.nzZ7 (by with_reducible assumption) | exact Mine.nzA8 (by with_reducible assumption) | exact Mine.nzZ8 (by with_reducible assumption) | exact Mine.nzA9 (by with_reducible assumption) | exact Mine.nzZ9 (by with_reducible assumption) | exact Mine.nzA10 (by with_reducible assumption) | exact Mine.nzZ10 (by with_reducible assumption) | exact Mine.nzA11 (by with_reducible assumption) | exact Mine.nzZ11 (by with_reducible assumption) | exact Mine.nzA12 (by with_reducible assumption) | exact Mine.nzZ12 (by with_reducible assumption) | exact Mine.nzA13 (by with_reducible assumption) | exact Mine.nzZ13 (by with_reducible assumption) | exact Mine.nzA14 (by with_reducible assumption) | exact Mine.nzZ14 (by with_reducible assumption) | exact Mine.nzA15 (by with_reducible assumption) | exact Mine.nzZ15 (by with_reducible assumption) | exact Mine.nzA16 (by with_reducible assumption) | exact Mine.nzZ16 (by with_reducible assumption))
  | (apply Ne.symm; (first | with_reducible assumption | exact Mine.nzA1 (by with_reducible assumption) | exact Mine.nzA2 (by with_reducible assumption) | exact Mine.nzZ2 (by with_reducible assumption) | exact Mine.nzA3 (by with_reducible assumption) | exact Mine.nzZ3 (by with_reducible assumption) | exact Mine.nzA4 (by with_reducible assumption) | exact Mine.nzZ4 (by with_reducible assumption) | exact Mine.nzA5 (by with_reducible assumption) | exact Mine.nzZ5 (by with_reducible assumption) | exact Mine.nzA6 (by with_reducible assumption) | exact Mine.nzZ6 (by with_reducible assumption) | exact Mine.nzA7 (by with_reducible assumption) | exact Mine.nzZ7 (by with_reducible assumption) | exact Mine.nzA8 (by with_reducible assumption) | exact Mine.nzZ8 (by with_reducible assumption) | exact Mine.nzA9 (by with_reducible assumption) | exact Mine.nzZ9 (by with_reducible assumption) | exact Mine.nzA10 (by with_reducible assumption) | exact Mine.nzZ10 (by with_reducible assumption) | exact Mine.nzA11 (by with_reducible assumption) | exact Mine.nzZ11 (by with_reducible assumption) | exact Mine.nzA12 (by with_reducible assumption) | exact Mine.nzZ12 (by with_reducible assumption) | exact Mine.nzA13 (by with_reducible assumption) | exact Mine.nzZ13 (by with_reducible assumption) | exact Mine.nzA14 (by with_reducible assumption) | exact Mine.nzZ14 (by with_reducible assumption) | exact Mine.nzA15 (by with_reducible assumption) | exact Mine.nzZ15 (by with_reducible assumption) | exact Mine.nzA16 (by with_reducible assumption) | exact Mine.nzZ16 (by with_reducible assumption)))
  | omega))
local macro_rules | `(tactic| k_lt $h:ident) => `(tactic| (replace $h := Mine.allLt1 $h; dsimp only [Mine.AllLt1, Mine.AllLtC] at $h:ident))
open PySem PySem.W PyProof.Rows
namespace Mine
set_option Elab.async false
abbrev tab72 (c : Addr) : Obj := tabObj (#[] ++ #[rawInt ((116 : Nat) : Int), rawInt ((4 : Nat) : Int), Value.ref c])
theorem not_mem72 {c : Nat} (h : 72 < c) : c ∉ ([72] : List Nat) := fun hm => absurd (List.mem_singleton.mp hm) (Nat.ne_of_gt h)
def d2iQ : Str := Str.ofString "_digits2int.<locals>.inner"
set_option maxRecDepth 100000 in
set_option maxHeartbeats 8000000 in
set_option pp.deepTerms false in
set_option pp.maxSteps 6000 in
theorem d2i_T0 (w : World) (dl : Addr) (vs : List Value) (ns : List Int) (n : Int) (t1 t2 : Tok) :
    CtrT w 16 160 77 [(72, tabObj #[])] [.ref dl, .int n t2] (fun h => dl ≠ 72 ∧ h.IsList dl vs.toArray ∧ IntsAre vs ns ∧ ns.length ≤ 7 ∧ 0 < n ∧ n < 8 ∧ ∀ x ∈ ns, 0 ≤ x ∧ x < 2 ^ n.toNat) 
      (fun _ s Q => ∀ (t : Tok) (c : Addr) (oc : Obj) (vq : Array Value) (tq : Tok) (hz : Heap) (tz : Nat), KeepBut [72] s.heap hz → hz.get? 72 = some (tab72 c) → s.heap.get? c = none → hz.get? c = some oc → oc.data = .fields vq → vq[1]? = some (.str d2iQ tq) → Q (.int (dval ns n.toNat 0 ns.length) t) { s with heap := hz, toks := tz }) := by
  dsimp only [CtrT, P0, LS]
  k_fill
  intro mean mg mb dp un gd cn cs a ccd cl outer A₀ base h₀ L m s Q E B F X N T hk C1 C2 hpre hdp hun hret
  obtain ⟨hd72, hL0, hI, hn7, hp3, hp4, hb⟩ := hpre
  have hL1 : (hideAll s.heap [72]).IsList dl vs.toArray := by
    obtain ⟨o, ho, r⟩ := hL0
    exact ⟨o, hideAll_get _ ho (by simpa using hd72), r⟩
  refine wpAny_call ?_
  k_dflt (refine' enterTC ?k1 ?k2 ?k3 ?k4 ?k5 ?kA ?kF ?kK ?k6 ?k7 ?k8 ?k9 ?kB ?kD ?kC1 ?kC2 ?_ ?c2 ?c3 ?c4; (case kA => exact rfl); (case kF => exact rfl); (case kK => assumption); (case k1 => k_asm); (case k2 => k_asm); (case k3 => k_asm); (case k4 => k_asm); (case k5 => k_asm); (case k6 => k_is); (case k7 => k_is); (case k8 => ktr_room); (case k9 => exact BindsTo.of_eq rfl); (case kB => exact rfl); (case kD => decide +kernel); (case kC1 => assumption); (case kC2 => assumption); (case c2 => exact rfl); (case c3 => exact rfl); (case c4 => exact rfl); k_whole)
  have hg0 : hideAll s.heap (List.map (·.1) [((72 : Addr), tabObj #[])]) = hideAll s.heap [72] := rfl
  rw [hg0]
  generalize hg : hideAll s.heap [72] = g' at *
  clear C1 C2 N F B X T hg0
  intro L' h' tk' cells' F' N' Y' B' X' T' C1 C2 l1
  (try k_lt l1)
  k_cells Y'
  (try simp only [List.cons_append, List.nil_append] at N')
  (try dsimp only)
  (try k_lift B')
  (try k_fold)
  (first | (refine Mine.letF F' ?_; clear F'; intro mz34 F') | skip); (first | (refine Mine.letAE ?_; intro envz34) | skip); (first | (refine Mine.genT ?_; intro tkz34) | skip)
  w_on
  k_steps
  · (with_reducible rename News _ _ _ _ => kN)
    refine nameNews kN (fun fo hfo kN => ?_)
    rename_i oA oN oG dA dN dG f' c' oc' vs' tq ctq dcq hq1 tkq dc1 dc2 lc lf hq2 oF F9 N9 dF hx
    have dn : oN.data = Data.cell (some (Value.int n t2)) := dN
    have dg : oG.data = Data.cell (some (Value.ref dl)) := dG
    clear dA dN dG N9
    have key : ∀ (T72 : Obj) (sz : Nat) (l r : Int) (tl tr : Tok)
        (mean : ExcName → Option Value) (mg mb : Str → Option Value) (dp un : Nat) (gd : Option (List Code)) (cn : Str) (cs : Scope) (a : Addr) (ccd : Value) (cl : List (Str × Addr)) (outer : List Env) (A₀ : Around) (base h₀ : Heap) (L : Addr) (m : Str → Option Value) (s : Shared) (Q E : Value → Shared → Prop),
        Below A₀ base outer h₀ → Fr h₀ L s.heap m → (hd.heap_1 w.params).In h₀ → News h₀ L s.heap [(f', fo), (c', oc'), (L' + 1 + 1 + 1, oF), (L' + 1 + 1, oN), (L' + 1, oG), (72, T72)] → Top topProg LS mean mg mb h₀ → cs.kind = .function → CodeHd h₀ 76 72 → h₀.IsList dl vs.toArray →
        (0 ≤ l ∧ r = l + sz ∧ 0 < sz ∧ r ≤ ns.length ∧ sz ≤ 7) → dp + (4 + sz) < recursionLimit → un + (40 + 8 * sz) < cLine →
        (∀ (v : Int) (t : Tok) (hz : Heap) (tz : Nat), v = dval ns n.toNat l.toNat sz → 0 ≤ v → v < 562949953421312 → Fr h₀ L hz m → News h₀ L hz [(f', fo), (c', oc'), (L' + 1 + 1 + 1, oF), (L' + 1 + 1, oN), (L' + 1, oG), (72, T72)] → Q (.int v t) { s with heap := hz, toks := tz }) →
        wpAny (model P0 w) (ktrTop dp un gd cn cs L a ccd cl outer) (call (.ref f') [.int l tl, .int r tr]) Q E s := by
      clear kN F9 B' X' T' C1 C2 hL1 hL0 l1
      intro T72 sz
      induction sz using Nat.strongRecOn with
      | ind sz IH =>
      intro l r tl tr mean mg mb dp un gd cn cs a ccd cl outer A₀ base h₀ L m s Q E B F X N T hk C hL hpre hdp hun hret
      obtain ⟨hl0, hr, hs0, hri, hs7⟩ := hpre
      have hmid : (l + r).fdiv (2 ^ Int.toNat 1) = l + ((sz / 2 : Nat) : Int) := by
        rw [show (2 : Int) ^ Int.toNat 1 = 2 from rfl, Int.fdiv_eq_ediv_of_nonneg _ (by decide)]
        omega
      have hshe : ((l + r).fdiv (2 ^ Int.toNat 1) - l) * n = ((sz / 2 : Nat) : Int) * n := by rw [hmid]; congr 1; omega
      have hsh0 : 0 ≤ ((l + r).fdiv (2 ^ Int.toNat 1) - l) * n := by rw [hshe]; exact Int.mul_nonneg (by omega) (by omega)
      have hsh1 : ((l + r).fdiv (2 ^ Int.toNat 1) - l) * n ≤ 21 := by
        rw [hshe]
        have e1 : ((sz / 2 : Nat) : Int) * n ≤ 3 * n := Int.mul_le_mul_of_nonneg_right (by omega) (by omega)
        omega
      have hmid0 : 0 ≤ (l + r).fdiv (2 ^ Int.toNat 1) := by rw [hmid]; omega
      have hS : (((l + r).fdiv (2 ^ Int.toNat 1) - l) * n).toNat = n.toNat * (sz / 2) := by
        rw [hshe, Int.toNat_mul (by omega) (by omega), Int.toNat_natCast, Nat.mul_comm]
      subst hfo
      refine wpAny_call ?_
      k_dflt (refine' code_nest ?k1 ?k2 ?k3 ?k4 ?k5 ?kA ?kF ?kK ?k6 ?k7 ?k8 ?k9 ?kB ?_ ?c2 ?c3 ?c4 ?c5; (case kA => exact rfl); (case kF => exact rfl); (case kK => assumption); (case k1 => k_asm); (case k2 => k_asm); (case k3 => k_asm); (case k4 => k_asm); (case k5 => k_asm); (case k6 => exact List.mem_cons_self); (case k7 => exact codeRec_news (by k_asm) (by k_mem) (by assumption) (by assumption)); (case k8 => ktr_room); (case k9 => exact BindsTo.of_eq rfl); (case c5 => decide); (case kB => exact locs rfl); (case c2 => exact rfl); (case c3 => exact rfl); (case c4 => exact rfl); k_whole; intro g' L' h' FG' F' N' B' X' T'; (try dsimp only); (try k_lift B'); (try k_fold))
      (first | (refine Mine.letF F' ?_; clear F'; intro mz69 F') | skip); (first | (refine Mine.letAE ?_; intro envz69) | skip); (first | (refine Mine.genT ?_; intro tkz69) | skip)
      have C9 : CodeHd g' 76 72 := C.keeps FG'.keep
      have hL9 : g'.IsList dl vs.toArray := by
        obtain ⟨o, ho, r⟩ := hL
        exact ⟨o, FG'.keep _ _ ho, r⟩
      clear hL
      k_with "call ref" => (k_here; (simp only [List.nil_append]); k_dflt (first
        | (refine' IH (sz - sz / 2) (by omega) _ _ _ _ _ _ _ _ _ _ _ _ _ _ _ _ _ _ _ _ _ _ _ _ ?k1 ?k2 ?k3 ?k4 ?k5 ?k6 ?k7 ?k11 ?k8 ?k9 ?k10 ?_; (case k1 => k_asm); (case k2 => k_asm); (case k3 => k_asm); (case k4 => k_asm); (case k5 => k_asm); (case k6 => exact rfl); (case k7 => k_asm); (case k11 => k_asm); (case k8 => exact ⟨hmid0, by omega, by omega, hri, by omega⟩); (case k9 => ktr_room); (case k10 => ktr_units); k_whole; intro v1 tv1 h1 tk1 ev1 ev1a ev1b F1 N1)
        | (refine' IH (sz / 2) (by omega) _ _ _ _ _ _ _ _ _ _ _ _ _ _ _ _ _ _ _ _ _ _ _ _ ?k1 ?k2 ?k3 ?k4 ?k5 ?k6 ?k7 ?k11 ?k8 ?k9 ?k10 ?_; (case k1 => k_asm); (case k2 => k_asm); (case k3 => k_asm); (case k4 => k_asm); (case k5 => k_asm); (case k6 => exact rfl); (case k7 => k_asm); (case k11 => k_asm); (case k8 => exact ⟨hl0, hmid, by omega, by omega, by omega⟩); (case k9 => ktr_room); (case k10 => ktr_units); k_whole; intro v2 tv2 h2 tk2 ev2 ev2a ev2b F2 N2)); (try dsimp only); (try k_fold))
      k_steps
      · have e1 : sz = 1 := by omega
        subst e1
        have hv : ns.getD l.toNat 0 = dval ns n.toNat l.toNat 1 := by simp [dval]
        have hs := dval_small ns n.toNat l.toNat 1 hb (by omega) (by omega) (by omega)
        exact hret _ _ _ _ hv (by rw [hv]; exact hs.1) (by rw [hv]; exact hs.2) (by assumption) (by assumption)
      · have hv : v1 * 2 ^ (((l + r).fdiv (2 ^ Int.toNat 1) - l) * n).toNat + v2 = dval ns n.toNat l.toNat sz := by
          have e0 : ((l + r).fdiv (2 ^ Int.toNat 1)).toNat = l.toNat + sz / 2 := by rw [hmid]; omega
          have e1 := dval_split ns n.toNat l.toNat (sz / 2) (sz - sz / 2)
          have e2 : sz / 2 + (sz - sz / 2) = sz := by omega
          rw [e2] at e1
          rw [ev1, ev2, hS, e0, e1]
        have hs := dval_small ns n.toNat l.toNat sz hb (by omega) (by omega) hs7
        exact hret _ _ _ _ hv (by rw [hv]; exact hs.1) (by rw [hv]; exact hs.2) (by assumption) (by assumption)
    k_here
    (simp only [List.nil_append])
    k_dflt (refine' key _ ns.length _ _ _ _ _ _ _ _ _ _ _ _ _ _ _ _ _ _ _ _ _ _ _ _ ?k1 ?k2 ?k3 ?k4 ?k5 ?k6 ?k7 ?k11 ?k8 ?k9 ?k10 ?_; (case k1 => k_asm); (case k2 => k_asm); (case k3 => k_asm); (case k4 => k_asm); (case k5 => k_asm); (case k6 => exact rfl); (case k7 => k_asm); (case k11 => k_asm); (case k8 => exact ⟨by omega, by omega, hx, by omega, hn7⟩); (case k9 => ktr_room); (case k10 => ktr_units); k_whole; intro v1 tv1 h1 tk1 ev1 ev1a ev1b F1 N1)
    clear key
    subst hfo
    subst ev1
    have n1 := N1 _ (List.mem_cons_of_mem _ List.mem_cons_self)
    have n2 := N1 _ (.tail _ (.tail _ (.tail _ (.tail _ (.tail _ (.head _))))))
    refine hret _ _ _ _ _ _ _ (fun b o hb e => ?_) n2.1 ?_ n1.1 dc1 dc2
    · exact F1.keep _ _ (by rw [← hg]; exact hideAll_get _ e hb)
    · cases q : s.heap.get? c' with
      | none => rfl
      | some o =>
        have q2 := hideAll_get [72] q (not_mem72 (by omega))
        rw [hg, n1.2.2] at q2
        cases q2
  · have e0 : ns = [] := List.eq_nil_of_length_eq_zero (by omega)
    subst e0
    (with_reducible rename Obj.data _ = Data.fields _ => dc1)
    (with_reducible rename Fr _ _ _ _ => kF)
    (with_reducible rename News _ _ _ _ => kN)
    have n1 := kN _ (List.mem_cons_of_mem _ List.mem_cons_self)
    have n2 := kN _ (.tail _ (.tail _ (.tail _ (.tail _ (.tail _ (.head _))))))
    refine hret _ _ _ _ _ _ _ (fun b o hb e => ?_) n2.1 ?_ n1.1 dc1 (by assumption)
    · exact kF.keep _ _ (by rw [← hg]; exact hideAll_get _ e hb)
    · rename_i c' _ _ _ _ _ _ _ _ _ _ _ _ _ _ _
      cases q : s.heap.get? _ with
      | none => rfl
      | some o =>
        have q2 := hideAll_get [72] q (not_mem72 (by omega))
        rw [hg, n1.2.2] at q2
        cases q2
end Mine
end
section -- Kd2i1
theorem Mine.wTopOff6 : True := by w_top off; trivial
local macro_rules | `(tactic| walk_at "no such line") => `(tactic| fail)
local macro_rules | `(tactic| walk_at "no such line") => `(tactic| fail)
local macro_rules | `(tactic| walk_at "no such line") => `(tactic| fail)
local macro_rules | `(tactic| walk_at "no such line") => `(tactic| fail)
local macro_rules | `(tactic| walk_at "no such line") => `(tactic| fail)
local macro_rules | `(tactic| walk_at "no such line") => `(tactic| fail)
local macro_rules | `(tactic| walk_at "no such line") => `(tactic| fail)
local macro_rules | `(tactic| walk_at "no such line") => `(tactic| fail)
local macro_rules | `(tactic| walk_at "no such line") => `(tactic| fail)
local macro_rules | `(tactic| walk_at "no such line") => `(tactic| fail)
local macro_rules | `(tactic| walk_at "no such line") => `(tactic| fail)
local macro_rules | `(tactic| walk_at "no such line") => `(tactic| fail)
local macro_rules | `(tactic| walk_at "no such line") => `(tactic| fail)
local macro_rules | `(tactic| walk_at "no such line") => `(tactic| fail)
local macro_rules | `(tactic| walk_at "no such line") => `(tactic| fail)
local macro_rules | `(tactic| walk_at "no such line") => `(tactic| fail)
local macro_rules | `(tactic| walk_at "no such line") => `(tactic| fail)
local macro_rules | `(tactic| walk_at "no such line") => `(tactic| fail)
local macro_rules | `(tactic| walk_at "no such line") => `(tactic| fail)
local macro_rules | `(tactic| walk_at "no such line") => `(tactic| fail)
local macro_rules | `(tactic| walk_at "no such line") => `(tactic| fail)
local macro_rules | `(tactic| walk_at "no such line") => `(tactic| fail)
local macro_rules | `(tactic| walk_at "no such line") => `(tactic| fail)
local macro_rules | `(tactic| walk_at "no such line") => `(tactic| fail)
local macro_rules | `(tactic| walk_at "no such line") => `(tactic| fail)
local macro_rules | `(tactic| walk_at "no such line") => `(tactic| fail)
local macro_rules | `(tactic| walk_at "no such line") => `(tactic| fail)
local macro_rules | `(tactic| walk_at "no such line") => `(tactic| fail)
local macro_rules | `(tactic| walk_at "no such line") => `(tactic| fail)
local macro_rules | `(tactic| walk_at "no such line") => `(tactic| fail)
local macro_rules | `(tactic| walk_at "no such line") => `(tactic| fail)
local macro_rules | `(tactic| walk_at "no such line") => `(tactic| fail)
local macro_rules | `(tactic| walk_at "no such line") => `(tactic| fail)
local macro_rules | `(tactic| walk_at "no such line") => `(tactic| fail)
local macro_rules | `(tactic| walk_at "no such line") => `(tactic| fail)
local macro_rules | `(tactic| walk_at "no such line") => `(tactic| fail)
local macro_rules | `(tactic| walk_at "no such line") => `(tactic| fail)
local macro_rules | `(tactic| walk_at "no such line") => `(tactic| fail)
local macro_rules | `(tactic| walk_at "no such line") => `(tactic| fail)
local macro_rules | `(tactic| walk_at "no such line") => `(tactic| fail)
local macro_rules | `(tactic| walk_at "no such line") => `(tactic| fail)
local macro_rules | `(tactic| walk_at "no such line") => `(tactic| fail)
local macro_rules | `(tactic| walk_at "no such line") => `(tactic| fail)
local macro_rules | `(tactic| walk_at "no such line") => `(tactic| fail)
local macro_rules | `(tactic| walk_at "no such line") => `(tactic| fail)
local macro_rules | `(tactic| walk_at "no such line") => `(tactic| fail)
local macro_rules | `(tactic| walk_at "no such line") => `(tactic| fail)
local macro_rules | `(tactic| walk_at "no such line") => `(tactic| fail)
local macro_rules | `(tactic| walk_at "no such line") => `(tactic| fail)
local macro_rules | `(tactic| walk_at "no such line") => `(tactic| fail)
local macro_rules | `(tactic| walk_at "eval BinOp") => `(tactic| (k_here; k_dflt (refine' Mine.pev_ok ?F ?e ?c ?k ?_; (case F => k_asm); (case e => exact rfl); (case c => (repeat (first | exact trivial | refine And.intro (by mul_fits) ?_))); (case k => rfl); k_whole)))
local macro_rules | `(tactic| walk_at "spliced") => `(tactic| (k_here; k_dflt (refine' Mine.args_ok ?F ?k ?e ?c ?_; (case F => k_asm); (case k => rfl); (case e => exact rfl); (case c => (repeat (first | exact trivial | refine And.intro (by mul_fits) ?_))); k_whole)))
local macro_rules | `(tactic| walk_at "isTrue Compare") => `(tactic| (k_here; k_dflt (refine' Mine.cmp_ok ?F ?e ?c ?k ?n ?_; (case F => k_asm); (case e => exact rfl); (case c => (repeat (first | exact trivial | refine And.intro (by mul_fits) ?_))); (case k => rfl); (case n => rfl); k_whole)))
local macro_rules | `(tactic| walk_at "exec Assign") => `(tactic| (k_here; k_dflt (refine' Mine.assign_ok ?F ?N ?e ?c ?k ?x ?s ?_; (case F => k_asm); (case N => k_asm); (case e => exact rfl); (case c => (repeat (first | exact trivial | refine And.intro (by mul_fits) ?_))); (case k => rfl); (case x => rfl); (case s => rfl); k_whole; intro h' m' F' N'; (try k_sweep))))
local macro_rules | `(tactic| walk_at "exec Return some") => `(tactic| (k_here; k_dflt (refine' Mine.ret_ok ?F ?e ?c ?k ?_; (case F => k_asm); (case e => exact rfl); (case c => (repeat (first | exact trivial | refine And.intro (by mul_fits) ?_))); (case k => rfl); k_whole)))
local macro_rules | `(tactic| walk_at "storeName") => `(tactic| (k_here; k_dflt (refine' Mine.storeY_L ?F ?N ?_ ?a ?b; (case F => k_asm); (case N => k_asm); (case a => rfl); (case b => rfl); k_whole; intro h' m' F' N'; (try k_sweep))))
local macro_rules | `(tactic| k_steps) => `(tactic| repeat' (first | dsimp only | (k_unfold; (try dsimp only)) | (k_end; wrow_close) | walk1 | (dsimp only; walk1) | (leave1; walk_say "STEP leave1"; try dsimp only) | fail "no step"))
local macro_rules | `(tactic| k_ne) => `(tactic| (refine PySem.W.neN ?_; (try dsimp only); first
  | with_reducible assumption
  | ((with_reducible refine Nat.ne_of_lt ?_); (repeat with_reducible refine Mine.nzLT ?_); (first | with_reducible assumption | exact Mine.nzA1 (by with_reducible assumption) | exact Mine.nzA2 (by with_reducible assumption) | exact Mine.nzZ2 (by with_reducible assumption) | exact Mine.nzA3 (by with_reducible assumption) | exact Mine.nzZ3 (by with_reducible assumption) | exact Mine.nzA4 (by with_reducible assumption) | exact Mine.nzZ4 (by with_reducible assumption) | exact Mine.nzA5 (by with_reducible assumption) | exact Mine.nzZ5 (by with_reducible assumption) | exact Mine.nzA6 (by with_reducible assumption) | exact Mine.nzZ6 (by with_reducible assumption) | exact Mine.nzA7 (by with_reducible assumption) | exact Mine.nzZ7 (by with_reducible assumption) | exact Mine.nzA8 (by with_reducible assumption) | exact Mine.nzZ8 (by with_reducible assumption) | exact Mine.nzA9 (by with_reducible assumption) | exact Mine.nzZ9 (by with_reducible assumption) | exact Mine.nzA10 (by with_reducible assumption) | exact Mine.nzZ10 (by with_reducible assumption) | exact Mine.nzA11 (by with_reducible assumption) | exact Mine.nzZ11 (by with_reducible assumption) | exact Mine.nzA12 (by with_reducible assumption) | exact Mine.nzZ12 (by with_reducible assumption) | exact Mine.nzA13 (by with_reducible assumption) | exact Mine.nzZ13 (by with_reducible assumption) | exact Mine.nzA14 (by with_reducible assumption) | exact Mine.nzZ14 (by with_reducible assumption) | exact Mine.nzA15 (by with_reducible assumption) | exact Mine.nzZ15 (by with_reducible assumption) | exact Mine.nzA16 (by with_reducible assumption) | exact Mine.nzZ16 (by with_reducible assumption)))
  | ((with_reducible refine Nat.ne_of_gt ?_); (repeat with_reducible refine Mine.nzLT ?_); (first | with_reducible assumption | exact Mine.nzA1 (by with_reducible assumption) | exact Mine.nzA2 (by with_reducible assumption) | exact Mine.nzZ2 (by with_reducible assumption) | exact Mine.nzA3 (by with_reducible assumption) | exact Mine.nzZ3 (by with_reducible assumption) | exact Mine.nzA4 (by with_reducible assumption) | exact Mine.nzZ4 (by with_reducible assumption) | exact Mine.nzA5 (by with_reducible assumption) | exact Mine.nzZ5 (by with_reducible assumption) | exact Mine.nzA6 (by with_reducible assumption) | exact Mine.nzZ6 (by with_reducible assumption) | exact Mine.nzA7 (by with_reducible assumption) | exact Mine.nzZ7 (by with_reducible assumption) | exact Mine.nzA8 (by with_reducible assumption) | exact Mine.nzZ8 (by with_reducible assumption) | exact Mine.nzA9 (by with_reducible assumption) | exact Mine.nzZ9 (by with_reducible assumption) | exact Mine.nzA10 (by with_reducible assumption) | exact Mine.nzZ10 (by with_reducible assumption) | exact Mine.nzA11 (by with_reducible assumption) | exact Mine.nzZ11 (by with_reducible assumption) | exact Mine.nzA12 (by with_reducible assumption) | exact Mine.nzZ12 (by with_reducible assumption) | exact Mine.nzA13 (by with_reducible assumption) | exact Mine.nzZ13 (by with_reducible assumption) | exact Mine.nzA14 (by with_reducible assumption) | exact Mine.nzZ14 (by with_reducible assumption) | exact Mine.nzA15 (by with_reducible assumption) | exact Mine.nzZ15 (by with_reducible assumption) | exact Mine.nzA16 (by with_reducible assumption) | exact Mine.nzZ16 (by with_reducible assumption)))
  | ((repeat with_reducible refine Mine.nzSS ?_); (first | with_reducible refine Mine.nzS0 ?_ | with_reducible refine Mine.nz0S ?_); (repeat (first | with_reducible exact Nat.le_refl _ | with_reducible refine Mine.nzLS ?_)); done)
  | (first | with_reducible assumption | exact Mine.nzA1 (by with_reducible assumption) | exact Mine.nzA2 (by with_reducible assumption) | exact Mine.nzZ2 (by with_reducible assumption) | exact Mine.nzA3 (by with_reducible assumption) | exact Mine.nzZ3 (by with_reducible assumption) | exact Mine.nzA4 (by with_reducible assumption) | exact Mine.nzZ4 (by with_reducible assumption) | exact Mine.nzA5 (by with_reducible assumption) | exact Mine.nzZ5 (by with_reducible assumption) | exact Mine.nzA6 (by with_reducible assumption) | exact Mine.nzZ6 (by with_reducible assumption) | exact Mine.nzA7 (by with_reducible assumption) | exact Mine.nzZ7 (by with_reducible assumption) | exact Mine.nzA8 (by with_reducible assumption) | exact Mine.nzZ8 (by with_reducible assumption) | exact Mine.nzA9 (by with_reducible assumption) | exact Mine.nzZ9 (by with_reducible assumption) | exact Mine.nzA10 (by with_reducible assumption) | exact Mine.nzZ10 (by with_reducible assumption) | exact Mine.nzA11 (by with_reducible assumption) | exact Mine.nzZ11 (by with_reducible assumption) | exact Mine.nzA12 (by with_reducible assumption) | exact Mine.nzZ12 (by with_reducible assumption) | exact Mine.nzA13 (by with_reducible assumption) | exact Mine.nzZ13 (by with_reducible assumption) | exact Mine.nzA14 (by with_reducible assumption) | exact Mine.nzZ14 (by with_reducible assumption) | exact Mine.nzA15 (by with_reducible assumption) | exact Mine.nzZ15 (by with_reducible assumption) | exact Mine.nzA16 (by with_reducible assumption) | exact Mine.nzZ16 (by with_reducible assumption))
  | (apply Ne.symm; (first | with_reducible assumption | exact Mine.nzA1 (by with_reducible assumption) | exact Mine.nzA2 (by with_reducible assumption) | exact Mine.nzZ2 (by with_reducible assumption) | exact Mine.nzA3 (by with_reducible assumption) | exact Mine.nzZ3 (by with_reducible assumption) | exact Mine.nzA4 (by with_reducible assumption) | exact Mine.nzZ4 (by with_reducible assumption) | exact Mine.nzA5 (by with_reducible assumption) | exact Mine.nzZ5 (by with_reducible assumption) | exact Mine.nzA6 (by with_reducible assumption) | exact Mine.nzZ6 (by with_reducible assumption) | exact Mine.nzA7 (by with_reducible assumption) | exact Mine.nzZ7 (by with_reducible assumption) | exact Mine.nzA8 (by with_reducible assumption) | exact Mine.nzZ8 (by with_reducible assumption) | exact Mine.nzA9 (by with_reducible assumption) | exact Mine.nzZ9 (by with_reducible assumption) | exact Mine.nzA10 (by with_reducible assumption) | exact Mine.nzZ10 (by with_reducible assumption) | exact Mine.nzA11 (by with_reducible assumption) | exact Mine.nzZ11 (by with_reducible assumption) | exact Mine.nzA12 (by with_reducible assumption) | exact Mine.nzZ12 (by with_reducible assumption) | exact Mine.nzA13 (by with_reducible assumption) | exact Mine.nzZ13 (by with_reducible assumption) | exact Mine.nzA14 (by with_reducible assumption) | exact Mine.nzZ14 (by with_reducible assumption) | exact Mine.nzA15 (by with_reducible assumption) | exact Mine.nzZ15 (by with_reducible assumption) | exact Mine.nzA16 (by with_reducible assumption) | exact Mine.nzZ16 (by with_reducible assumption)))
  | omega))
local macro_rules | `(tactic| k_lt $h:ident) => `(tactic| (replace $h := Mine.allLt1 $h; dsimp only [Mine.AllLt1, Mine.AllLtC] at $h:ident))
open PySem PySem.W PyProof.Rows
namespace Mine
set_option Elab.async false
theorem keep_two {h g h' : Heap} {a b : Addr} {oa ob : Obj} (hg : hideAll h [a, b] = g) (k : ∀ x o, g.get? x = some o → h'.get? x = some o) (ha : h.get? a = some oa) (hb : h.get? b = some ob) (ha' : h'.get? a = some oa) (hb' : h'.get? b = some ob) : Keep h h' := by
  intro x o e
  by_cases q1 : x = a
  · subst q1; rw [ha'] ; rw [ha] at e; exact e
  · by_cases q2 : x = b
    · subst q2; rw [hb']; rw [hb] at e; exact e
    · exact k x o (by rw [← hg]; exact hideAll_get _ e (by simp [q1, q2]))
theorem keep_one {h g h' : Heap} {a : Addr} {oa : Obj} (hg : hideAll h [a] = g) (k : ∀ x o, g.get? x = some o → h'.get? x = some o) (ha : h.get? a = some oa) (ha' : h'.get? a = some oa) : Keep h h' := by
  intro x o e
  by_cases q1 : x = a
  · subst q1; rw [ha'] ; rw [ha] at e; exact e
  · exact k x o (by rw [← hg]; exact hideAll_get _ e (by simp [q1]))
set_option maxRecDepth 100000 in
set_option maxHeartbeats 8000000 in
set_option pp.deepTerms false in
set_option pp.maxSteps 6000 in
theorem d2i_T1 (w : World) (c' : Addr) (oc' : Obj) (vs' : Array Value) (tq : Tok) (dl : Addr) (vs : List Value) (ns : List Int) (n : Int) (t1 t2 : Tok) :
    CtrT w 16 160 77 [(72, tab72 c')] [.ref dl, .int n t2] (fun h => dl ≠ 72 ∧ c' ≠ 72 ∧ h.get? c' = some oc' ∧ oc'.data = .fields vs' ∧ vs'[1]? = some (.str d2iQ tq) ∧ h.IsList dl vs.toArray ∧ IntsAre vs ns ∧ ns.length ≤ 7 ∧ 0 < n ∧ n < 8 ∧ ∀ x ∈ ns, 0 ≤ x ∧ x < 2 ^ n.toNat) 
      (fun _ s Q => ∀ (t : Tok) (hz : Heap) (tz : Nat), Keep s.heap hz → Q (.int (dval ns n.toNat 0 ns.length) t) { s with heap := hz, toks := tz }) := by
  dsimp only [CtrT, P0, LS]
  k_fill
  intro mean mg mb dp un gd cn cs a ccd cl outer A₀ base h₀ L m s Q E B F X N T hk C1 C2 hpre hdp hun hret
  obtain ⟨hd72, hdc, hc0, dc1, dc2, hL0, hI, hn7, hp3, hp4, hb⟩ := hpre
  have hN1 := (N _ (.head _)).1
  have hc1 : (hideAll s.heap [72]).get? c' = some oc' := hideAll_get _ hc0 (by simp [hdc])
  have hL1 : (hideAll s.heap [72]).IsList dl vs.toArray := by
    obtain ⟨o, ho, r⟩ := hL0
    exact ⟨o, hideAll_get _ ho (by simp [hd72]), r⟩
  refine wpAny_call ?_
  k_dflt (refine' enterTC ?k1 ?k2 ?k3 ?k4 ?k5 ?kA ?kF ?kK ?k6 ?k7 ?k8 ?k9 ?kB ?kD ?kC1 ?kC2 ?_ ?c2 ?c3 ?c4; (case kA => exact rfl); (case kF => exact rfl); (case kK => assumption); (case k1 => k_asm); (case k2 => k_asm); (case k3 => k_asm); (case k4 => k_asm); (case k5 => k_asm); (case k6 => k_is); (case k7 => k_is); (case k8 => ktr_room); (case k9 => exact BindsTo.of_eq rfl); (case kB => exact rfl); (case kD => decide +kernel); (case kC1 => assumption); (case kC2 => assumption); (case c2 => exact rfl); (case c3 => exact rfl); (case c4 => exact rfl); k_whole)
  have hg0 : hideAll s.heap (List.map (·.1) [((72 : Addr), tab72 c')]) = hideAll s.heap [72] := rfl
  rw [hg0]
  generalize hg : hideAll s.heap [72] = g' at *
  clear C1 C2 N F B X T hg0
  intro L' h' tk' cells' F' N' Y' B' X' T' C1 C2 l1
  (try k_lt l1)
  k_cells Y'
  (try simp only [List.cons_append, List.nil_append] at N')
  (try dsimp only)
  (try k_lift B')
  (try k_fold)
  (first | (refine Mine.letF F' ?_; clear F'; intro mz44 F') | skip); (first | (refine Mine.letAE ?_; intro envz44) | skip); (first | (refine Mine.genT ?_; intro tkz44) | skip)
  w_on
  k_steps
  · (with_reducible rename News _ _ _ _ => kN)
    refine nameNews kN (fun fo hfo kN => ?_)
    rename_i oA oN oG dA dN dG f' ctq dcq hq1 tkq lf hq2 oF F9 N9 dF hx
    have dn : oN.data = Data.cell (some (Value.int n t2)) := dN
    have dg : oG.data = Data.cell (some (Value.ref dl)) := dG
    clear dA dN dG N9
    have key : ∀ (T72 : Obj) (sz : Nat) (l r : Int) (tl tr : Tok)
        (mean : ExcName → Option Value) (mg mb : Str → Option Value) (dp un : Nat) (gd : Option (List Code)) (cn : Str) (cs : Scope) (a : Addr) (ccd : Value) (cl : List (Str × Addr)) (outer : List Env) (A₀ : Around) (base h₀ : Heap) (L : Addr) (m : Str → Option Value) (s : Shared) (Q E : Value → Shared → Prop),
        Below A₀ base outer h₀ → Fr h₀ L s.heap m → (hd.heap_1 w.params).In h₀ → News h₀ L s.heap [(f', fo), (L' + 1 + 1 + 1, oF), (L' + 1 + 1, oN), (L' + 1, oG), (72, T72)] → Top topProg LS mean mg mb h₀ → cs.kind = .function → CodeHd h₀ 76 72 → h₀.IsList dl vs.toArray → h₀.get? c' = some oc' →
        (0 ≤ l ∧ r = l + sz ∧ 0 < sz ∧ r ≤ ns.length ∧ sz ≤ 7) → dp + (4 + sz) < recursionLimit → un + (40 + 8 * sz) < cLine →
        (∀ (v : Int) (t : Tok) (hz : Heap) (tz : Nat), v = dval ns n.toNat l.toNat sz → 0 ≤ v → v < 562949953421312 → Fr h₀ L hz m → News h₀ L hz [(f', fo), (L' + 1 + 1 + 1, oF), (L' + 1 + 1, oN), (L' + 1, oG), (72, T72)] → Q (.int v t) { s with heap := hz, toks := tz }) →
        wpAny (model P0 w) (ktrTop dp un gd cn cs L a ccd cl outer) (call (.ref f') [.int l tl, .int r tr]) Q E s := by
      clear kN F9 B' X' T' C1 C2 hL1 hL0 l1 hc1 hc0
      intro T72 sz
      induction sz using Nat.strongRecOn with
      | ind sz IH =>
      intro l r tl tr mean mg mb dp un gd cn cs a ccd cl outer A₀ base h₀ L m s Q E B F X N T hk C hL hcc hpre hdp hun hret
      obtain ⟨hl0, hr, hs0, hri, hs7⟩ := hpre
      have hmid : (l + r).fdiv (2 ^ Int.toNat 1) = l + ((sz / 2 : Nat) : Int) := by
        rw [show (2 : Int) ^ Int.toNat 1 = 2 from rfl, Int.fdiv_eq_ediv_of_nonneg _ (by decide)]
        omega
      have hshe : ((l + r).fdiv (2 ^ Int.toNat 1) - l) * n = ((sz / 2 : Nat) : Int) * n := by rw [hmid]; congr 1; omega
      have hsh0 : 0 ≤ ((l + r).fdiv (2 ^ Int.toNat 1) - l) * n := by rw [hshe]; exact Int.mul_nonneg (by omega) (by omega)
      have hsh1 : ((l + r).fdiv (2 ^ Int.toNat 1) - l) * n ≤ 21 := by
        rw [hshe]
        have e1 : ((sz / 2 : Nat) : Int) * n ≤ 3 * n := Int.mul_le_mul_of_nonneg_right (by omega) (by omega)
        omega
      have hmid0 : 0 ≤ (l + r).fdiv (2 ^ Int.toNat 1) := by rw [hmid]; omega
      have hS : (((l + r).fdiv (2 ^ Int.toNat 1) - l) * n).toNat = n.toNat * (sz / 2) := by
        rw [hshe, Int.toNat_mul (by omega) (by omega), Int.toNat_natCast, Nat.mul_comm]
      subst hfo
      refine wpAny_call ?_
      k_dflt (refine' code_nest ?k1 ?k2 ?k3 ?k4 ?k5 ?kA ?kF ?kK ?k6 ?k7 ?k8 ?k9 ?kB ?_ ?c2 ?c3 ?c4 ?c5; (case kA => exact rfl); (case kF => exact rfl); (case kK => assumption); (case k1 => k_asm); (case k2 => k_asm); (case k3 => k_asm); (case k4 => k_asm); (case k5 => k_asm); (case k6 => exact List.mem_cons_self); (case k7 => exact codeRec_at (F.keep _ _ hcc) dc1 dc2); (case k8 => ktr_room); (case k9 => exact BindsTo.of_eq rfl); (case c5 => decide); (case kB => exact locs rfl); (case c2 => exact rfl); (case c3 => exact rfl); (case c4 => exact rfl); k_whole; intro g' L' h' FG' F' N' B' X' T'; (try dsimp only); (try k_lift B'); (try k_fold))
      (first | (refine Mine.letF F' ?_; clear F'; intro mz79 F') | skip); (first | (refine Mine.letAE ?_; intro envz79) | skip); (first | (refine Mine.genT ?_; intro tkz79) | skip)
      have C9 : CodeHd g' 76 72 := C.keeps FG'.keep
      have hcc9 : g'.get? c' = some oc' := FG'.keep _ _ hcc
      have hL9 : g'.IsList dl vs.toArray := by
        obtain ⟨o, ho, r⟩ := hL
        exact ⟨o, FG'.keep _ _ ho, r⟩
      clear hL
      k_with "call ref" => (k_here; (simp only [List.nil_append]); k_dflt (first
        | (refine' IH (sz - sz / 2) (by omega) _ _ _ _ _ _ _ _ _ _ _ _ _ _ _ _ _ _ _ _ _ _ _ _ ?k1 ?k2 ?k3 ?k4 ?k5 ?k6 ?k7 ?k11 ?kc ?k8 ?k9 ?k10 ?_; (case k1 => k_asm); (case k2 => k_asm); (case k3 => k_asm); (case k4 => k_asm); (case k5 => k_asm); (case k6 => exact rfl); (case k7 => k_asm); (case k11 => k_asm); (case kc => assumption); (case k8 => exact ⟨hmid0, by omega, by omega, hri, by omega⟩); (case k9 => ktr_room); (case k10 => ktr_units); k_whole; intro v1 tv1 h1 tk1 ev1 ev1a ev1b F1 N1)
        | (refine' IH (sz / 2) (by omega) _ _ _ _ _ _ _ _ _ _ _ _ _ _ _ _ _ _ _ _ _ _ _ _ ?k1 ?k2 ?k3 ?k4 ?k5 ?k6 ?k7 ?k11 ?kc ?k8 ?k9 ?k10 ?_; (case k1 => k_asm); (case k2 => k_asm); (case k3 => k_asm); (case k4 => k_asm); (case k5 => k_asm); (case k6 => exact rfl); (case k7 => k_asm); (case k11 => k_asm); (case kc => assumption); (case k8 => exact ⟨hl0, hmid, by omega, by omega, by omega⟩); (case k9 => ktr_room); (case k10 => ktr_units); k_whole; intro v2 tv2 h2 tk2 ev2 ev2a ev2b F2 N2)); (try dsimp only); (try k_fold))
      k_steps
      · have e1 : sz = 1 := by omega
        subst e1
        have hv : ns.getD l.toNat 0 = dval ns n.toNat l.toNat 1 := by simp [dval]
        have hs := dval_small ns n.toNat l.toNat 1 hb (by omega) (by omega) (by omega)
        exact hret _ _ _ _ hv (by rw [hv]; exact hs.1) (by rw [hv]; exact hs.2) (by assumption) (by assumption)
      · have hv : v1 * 2 ^ (((l + r).fdiv (2 ^ Int.toNat 1) - l) * n).toNat + v2 = dval ns n.toNat l.toNat sz := by
          have e0 : ((l + r).fdiv (2 ^ Int.toNat 1)).toNat = l.toNat + sz / 2 := by rw [hmid]; omega
          have e1 := dval_split ns n.toNat l.toNat (sz / 2) (sz - sz / 2)
          have e2 : sz / 2 + (sz - sz / 2) = sz := by omega
          rw [e2] at e1
          rw [ev1, ev2, hS, e0, e1]
        have hs := dval_small ns n.toNat l.toNat sz hb (by omega) (by omega) hs7
        exact hret _ _ _ _ hv (by rw [hv]; exact hs.1) (by rw [hv]; exact hs.2) (by assumption) (by assumption)
    k_here
    (simp only [List.nil_append])
    k_dflt (refine' key _ ns.length _ _ _ _ _ _ _ _ _ _ _ _ _ _ _ _ _ _ _ _ _ _ _ _ ?k1 ?k2 ?k3 ?k4 ?k5 ?k6 ?k7 ?k11 ?kc ?k8 ?k9 ?k10 ?_; (case k1 => k_asm); (case k2 => k_asm); (case k3 => k_asm); (case k4 => k_asm); (case k5 => k_asm); (case k6 => exact rfl); (case k7 => k_asm); (case k11 => k_asm); (case kc => assumption); (case k8 => exact ⟨by omega, by omega, hx, by omega, hn7⟩); (case k9 => ktr_room); (case k10 => ktr_units); k_whole; intro v1 tv1 h1 tk1 ev1 ev1a ev1b F1 N1)
    clear key
    subst hfo
    subst ev1
    have n1 := N1 _ (.tail _ (.tail _ (.tail _ (.tail _ (.head _)))))
    exact hret _ _ _ (keep_one hg F1.keep hN1 n1.1)
  · have e0 : ns = [] := List.eq_nil_of_length_eq_zero (by omega)
    subst e0
    (with_reducible rename Fr _ _ _ _ => kF)
    (with_reducible rename News _ _ _ _ => kN)
    have n1 := kN _ (.tail _ (.tail _ (.tail _ (.tail _ (.head _)))))
    exact hret _ _ _ (keep_one hg kF.keep hN1 n1.1)
end Mine
end
section -- Kdiv2
theorem Mine.wTopOff7 : True := by w_top off; trivial
local macro_rules | `(tactic| k_ne) => `(tactic| (refine PySem.W.neN ?_; (try dsimp only); first
  | with_reducible assumption
  | ((with_reducible refine Nat.ne_of_lt ?_); (repeat with_reducible refine Mine.nzLT ?_); (first | with_reducible assumption | exact Mine.nzA1 (by with_reducible assumption) | exact Mine.nzA2 (by with_reducible assumption) | exact Mine.nzZ2 (by with_reducible assumption) | exact Mine.nzA3 (by with_reducible assumption) | exact Mine.nzZ3 (by with_reducible assumption) | exact Mine.nzA4 (by with_reducible assumption) | exact Mine.nzZ4 (by with_reducible assumption) | exact Mine.nzA5 (by with_reducible assumption) | exact Mine.nzZ5 (by with_reducible assumption) | exact Mine.nzA6 (by with_reducible assumption) | exact Mine.nzZ6 (by with_reducible assumption) | exact Mine.nzA7 (by with_reducible assumption) | exact Mine.nzZ7 (by with_reducible assumption) | exact Mine.nzA8 (by with_reducible assumption) | exact Mine.nzZ8 (by with_reducible assumption) | exact Mine.nzA9 (by with_reducible assumption) | exact Mine.nzZ9 (by with_reducible assumption) | exact Mine.nzA10 (by with_reducible assumption) | exact Mine.nzZ10 (by with_reducible assumption) | exact Mine.nzA11 (by with_reducible assumption) | exact Mine.nzZ11 (by with_reducible assumption) | exact Mine.nzA12 (by with_reducible assumption) | exact Mine.nzZ12 (by with_reducible assumption) | exact Mine.nzA13 (by with_reducible assumption) | exact Mine.nzZ13 (by with_reducible assumption) | exact Mine.nzA14 (by with_reducible assumption) | exact Mine.nzZ14 (by with_reducible assumption) | exact Mine.nzA15 (by with_reducible assumption) | exact Mine.nzZ15 (by with_reducible assumption) | exact Mine.nzA16 (by with_reducible assumption) | exact Mine.nzZ16 (by with_reducible assumption)))
  | ((with_reducible refine Nat.ne_of_gt ?_); (repeat with_reducible refine Mine.nzLT ?_); (first | with_reducible assumption | exact Mine.nzA1 (by with_reducible assumption) | exact Mine.nzA2 (by with_reducible assumption) | exact Mine.nzZ2 (by with_reducible assumption) | exact Mine.nzA3 (by with_reducible assumption) | exact Mine.nzZ3 (by with_reducible assumption) | exact Mine.nzA4 (by with_reducible assumption) | exact Mine.nzZ4 (by with_reducible assumption) | exact Mine.nzA5 (by with_reducible assumption) | exact Mine.nzZ5 (by with_reducible assumption) | exact Mine.nzA6 (by with_reducible assumption) | exact Mine.nzZ6 (by with_reducible assumption) | exact Mine.nzA7 (by with_reducible assumption) | exact Mine.nzZ7 (by with_reducible assumption) | exact Mine.nzA8 (by with_reducible assumption) | exact Mine.nzZ8 (by with_reducible assumption) | exact Mine.nzA9 (by with_reducible assumption) | exact Mine.nzZ9 (by with_reducible assumption) | exact Mine.nzA10 (by with_reducible assumption) | exact Mine.nzZ10 (by with_reducible assumption) | exact Mine.nzA11 (by with_reducible assumption) | exact Mine.nzZ11 (by with_reducible assumption) | exact Mine.nzA12 (by with_reducible assumption) | exact Mine.nzZ12 (by with_reducible assumption) | exact Mine.nzA13 (by with_reducible assumption) | exact Mine.nzZ13 (by with_reducible assumption) | exact Mine.nzA14 (by with_reducible assumption) | exact Mine.nzZ14 (by with_reducible assumption) | exact Mine.nzA15 (by with_reducible assumption) | exact Mine.nzZ15 (by with_reducible assumption) | exact Mine.nzA16 (by with_reducible assumption) | exact Mine.nzZ16 (by with_reducible assumption)))
  | ((repeat with_reducible refine Mine.nzSS ?_); (first | with_reducible refine Mine.nzS0 ?_ | with_reducible refine Mine.nz0S ?_); (repeat (first | with_reducible exact Nat.le_refl _ | with_reducible refine Mine.nzLS ?_)); done)
  | (first | with_reducible assumption | exact Mine.nzA1 (by with_reducible assumption) | exact Mine.nzA2 (by with_reducible assumption) | exact Mine.nzZ2 (by with_reducible assumption) | exact Mine.nzA3 (by with_reducible assumption) | exact Mine.nzZ3 (by with_reducible assumption) | exact Mine.nzA4 (by with_reducible assumption) | exact Mine.nzZ4 (by with_reducible assumption) | exact Mine.nzA5 (by with_reducible assumption) | exact Mine.nzZ5 (by with_reducible assumption) | exact Mine.nzA6 (by with_reducible assumption) | exact Mine.nzZ6 (by with_reducible assumption) | exact Mine.nzA7 (by with_reducible assumption) | exact Mine.nzZ7 (by with_reducible assumption) | exact Mine.nzA8 (by with_reducible assumption) | exact Mine.nzZ8 (by with_reducible assumption) | exact Mine.nzA9 (by with_reducible assumption) | exact Mine.nzZ9 (by with_reducible assumption) | exact Mine.nzA10 (by with_reducible assumption) | exact Mine.nzZ10 (by with_reducible assumption) | exact Mine.nzA11 (by with_reducible assumption) | exact Mine.nzZ11 (by with_reducible assumption) | exact Mine.nzA12 (by with_reducible assumption) | exact Mine.nzZ12 (by with_reducible assumption) | exact Mine.nzA13 (by with_reducible assumption) | exact Mine.nzZ13 (by with_reducible assumption) | exact Mine.nzA14 (by with_reducible assumption) | exact Mine.nzZ14 (by with_reducible assumption) | exact Mine.nzA15 (by with_reducible assumption) | exact Mine.nzZ15 (by with_reducible assumption) | exact Mine.nzA16 (by with_reducible assumption) | exact Mine.nzZ16 (by with_reducible assumption))
  | (apply Ne.symm; (first | with_reducible assumption | exact Mine.nzA1 (by with_reducible assumption) | exact Mine.nzA2 (by with_reducible assumption) | exact Mine.nzZ2 (by with_reducible assumption) | exact Mine.nzA3 (by with_reducible assumption) | exact Mine.nzZ3 (by with_reducible assumption) | exact Mine.nzA4 (by with_reducible assumption) | exact Mine.nzZ4 (by with_reducible assumption) | exact Mine.nzA5 (by with_reducible assumption) | exact Mine.nzZ5 (by with_reducible assumption) | exact Mine.nzA6 (by with_reducible assumption) | exact Mine.nzZ6 (by with_reducible assumption) | exact Mine.nzA7 (by with_reducible assumption) | exact Mine.nzZ7 (by with_reducible assumption) | exact Mine.nzA8 (by with_reducible assumption) | exact Mine.nzZ8 (by with_reducible assumption) | exact Mine.nzA9 (by with_reducible assumption) | exact Mine.nzZ9 (by with_reducible assumption) | exact Mine.nzA10 (by with_reducible assumption) | exact Mine.nzZ10 (by with_reducible assumption) | exact Mine.nzA11 (by with_reducible assumption) | exact Mine.nzZ11 (by with_reducible assumption) | exact Mine.nzA12 (by with_reducible assumption) | exact Mine.nzZ12 (by with_reducible assumption) | exact Mine.nzA13 (by with_reducible assumption) | exact Mine.nzZ13 (by with_reducible assumption) | exact Mine.nzA14 (by with_reducible assumption) | exact Mine.nzZ14 (by with_reducible assumption) | exact Mine.nzA15 (by with_reducible assumption) | exact Mine.nzZ15 (by with_reducible assumption) | exact Mine.nzA16 (by with_reducible assumption) | exact Mine.nzZ16 (by with_reducible assumption)))
  | omega))
local macro_rules | `(tactic| k_lt $h:ident) => `(tactic| (replace $h := Mine.allLt1 $h; dsimp only [Mine.AllLt1, Mine.AllLtC] at $h:ident))
open PySem PySem.W PyProof.Rows
namespace Mine
set_option Elab.async false
theorem bits_small {x : Int} {k : Nat} (h0 : 0 ≤ x) (h : x < 2 ^ k) : Builtin.Int.intBits x ≤ k := by
  unfold Builtin.Int.intBits
  split
  · omega
  · rename_i hx
    have hx' : x.natAbs ≠ 0 := by intro e; apply hx; simp; omega
    have h2 : x.natAbs < 2 ^ k := by
      have e : (x.natAbs : Int) = x := Int.natAbs_of_nonneg h0
      have : (x.natAbs : Int) < ((2 ^ k : Nat) : Int) := by rw [e]; simpa using h
      omega
    have := (Nat.log2_lt hx').mpr h2
    omega
abbrev tup2I (x y : Int) (t1 t2 : Tok) : Obj := { cls := Value.type "tuple", data := Data.seq #[Value.int x t1, Value.int y t2] }
abbrev RetT2I (x y : Int) : Shared → (Value → Shared → Prop) → Prop :=
  fun s Q => ∀ (d : Addr) (t1 t2 : Tok) (h' : Heap) (tk' : Nat), Keep s.heap h' → s.heap.get? d = none → h'.get? d = some (tup2I x y t1 t2) → Q (.ref d) { s with heap := h', toks := tk' }
set_option maxRecDepth 100000 in
set_option maxHeartbeats 8000000 in
theorem div2_spec (w : World) (x y n : Int) (t1 t2 t3 : Tok) :
    CtrK w 4 40 56 [.int x t1, .int y t2, .int n t3] (fun _ => 0 ≤ x ∧ x < 1000000 ∧ 0 < y ∧ y < 1000 ∧ 0 < n ∧ n < 100) (RetT2I (x.fdiv y) (x.fmod y)) := by
  dsimp only [CtrK, P0, LS, RetT2I]
  k_fill
  intro mean mg mb dp un gd cn cs a ccd cl outer A₀ base h₀ L m s Q E B F X T hk hpre hdp hun hret
  obtain ⟨hp1, hp2, hp3, hp4, hp5, hp6⟩ := hpre
  have hbits : (↑(Builtin.Int.intBits x) : Int) - n ≤ 4000 := by
    have := bits_small (k := 20) hp1 (by omega)
    omega
  refine wpAny_call ?_
  k_dflt (refine' enterP ?k1 ?k2 ?k3 ?k5 ?kA ?kF ?kK ?k6 ?k7 ?k8 ?k9 ?kB ?_ ?c2 ?c3 ?c4 ?c5; (case kA => exact rfl); (case kF => exact rfl); (case kK => assumption); (case k1 => k_asm); (case k2 => k_asm); (case k3 => k_asm); (case k5 => k_asm); (case k6 => k_is); (case k7 => k_is); (case k8 => ktr_room); (case k9 => exact BindsTo.of_eq rfl); (case c5 => decide); (case kB => exact locs rfl); (case c2 => exact rfl); (case c3 => exact rfl); (case c4 => exact rfl); k_whole; intro L' h' F' N' B' X' T'; (try dsimp only); (try k_lift B'); (try k_fold))
  k_steps
  (try dsimp only)
  (with_reducible rename Fr _ _ _ _ => kF)
  (with_reducible rename News _ _ _ _ => kN)
  have h2 := kN _ List.mem_cons_self
  exact hret _ _ _ _ _ kF.keep h2.2.2 h2.1
end Mine
end
section -- Kloop
open PySem PySem.W PySem.Calls PyProof.Rows
namespace Mine
/-- where a turn of a loop ends -/
def TurnEnd (h₀ : Heap) (L I : Addr) (it : Obj) (Jn : (Str → Option Value) → List (Addr × Obj) → Prop) (s₁ : Shared) (Q : Flow → Shared → Prop) (f : Flow) (s₂ : Shared) : Prop :=
  match f with
  | .ret v => Q (.ret v) s₂
  | .brk => Q .next s₂
  | _ => ∃ h' tk m₂ news₂, s₂ = { s₁ with heap := h', toks := tk } ∧ Fr h₀ L h' m₂ ∧ News h₀ L h' ((I, it) :: news₂) ∧ Jn m₂ news₂
section
variable {prog : Program} {w : World} {A : Around} {E : Value → Shared → Prop} {s : Shared} {env : Env} {h₀ : Heap} {x : Str} {body : List Stmt} {Q : Flow → Shared → Prop}
theorem loopLit {I : Addr} {fp : List Addr} {n : Nat} {P : Nat → Value → Prop} {St : Nat → Heap → Prop} {m : Str → Option Value} {news : List (Addr × Obj)} (keep : List (Addr × Obj)) (J : Nat → (Str → Option Value) → List (Addr × Obj) → Prop)
    (W : Walks prog w A I fp [I] n P St) (hlive : ∀ i h, St i h → ∃ o, h.get? I = some o)
    (hfp : ∀ b ∈ fp, b = I ∨ (∃ o, (b, o) ∈ keep) ∨ ∃ o, h₀.get? b = some o)
    (hL : env.locals ∉ fp) (hI0 : h₀.get? I = none) (hst : St 0 s.heap) (F : Fr h₀ env.locals s.heap m) (N : News h₀ env.locals s.heap news)
    (J0 : J 0 m news) (hJ : ∀ i m₁ ns, J i m₁ ns → (∀ p ∈ keep, p ∈ ns) ∧ ∀ p ∈ ns, p.1 ≠ I)
    (turn : ∀ i v m₁ news₁ h tk it, i < n → P i v → J i m₁ news₁ → Fr h₀ env.locals h (fun y => if y = x then some v else m₁ y) → News h₀ env.locals h ((I, it) :: news₁) →
      wpAny (model prog w) A (execs body env) (TurnEnd h₀ env.locals I it (J (i + 1)) { s with heap := h, toks := tk } Q) E { s with heap := h, toks := tk })
    (done : ∀ m' news' h' tk, J n m' news' → Fr h₀ env.locals h' m' → News h₀ env.locals h' news' → Q .next { s with heap := h', toks := tk }) :
    LoopAtV prog w A h₀ env x body Q E (.ref I) s := by
  have hIf : I ∈ fp := W.sub I (List.mem_singleton.mpr rfl)
  refine ⟨I, fp, [I], n, P, St, m, news, J, rfl, W, hL, fun b hb => by rw [List.mem_singleton.mp hb]; exact hI0, fun p hp hI => (hJ 0 m news J0).2 p hp (List.mem_singleton.mp hI), hst, F, N, J0, ?_, fun h' tk m' news' F' N' _ hj => done m' news' h' tk hj F' N'⟩
  rintro i v m₁ news₁ s₁ own ⟨h, tk, rfl⟩ hin hP hJi hoff hown hget hall hst₁ F₁ N₁
  obtain ⟨it, hit⟩ := hlive _ _ hst₁
  have hmem := hall I hIf hI0 it hit
  have N₂ : News h₀ env.locals h ((I, it) :: news₁) := fun p hp => by
    rcases List.mem_cons.mp hp with rfl | hp
    · exact N₁ _ (List.mem_append_left _ hmem)
    · exact N₁ _ (List.mem_append_right _ hp)
  refine wpAny_mono (turn i v m₁ news₁ h tk it hin hP hJi F₁ N₂) (fun f s₂ p => ?_) fun _ _ e => e
  have fin : (∃ h' tk' m₂ news₂, s₂ = { ({ s with heap := h, toks := tk } : Shared) with heap := h', toks := tk' } ∧ Fr h₀ env.locals h' m₂ ∧ News h₀ env.locals h' ((I, it) :: news₂) ∧ J (i + 1) m₂ news₂) →
      LoopStepU h₀ env.locals [I] own (J (i + 1)) { s with heap := h, toks := tk } .next s₂ := by
    rintro ⟨h', tk', m₂, news₂, rfl, F', N', hj⟩
    refine ⟨rfl, h', tk', m₂, news₂, rfl, F', fun q hq => ?_, fun q hq hI => (hJ _ _ _ hj).2 q hq (List.mem_singleton.mp hI), hj⟩
    rcases List.mem_append.mp hq with hq | hq
    · have g1 : h.get? q.1 = some q.2 := hget q hq
      rcases hfp _ (hown q hq) with e | ⟨o, ho⟩ | ⟨o, ho⟩
      · have e2 : q = (I, it) := by
          rw [e, hit] at g1
          exact Prod.ext e (Option.some.inj g1).symm
        rw [e2]; exact N' _ (List.mem_cons_self ..)
      · have k1 := (hJ _ _ _ hJi).1 _ ho
        have g2 : h.get? q.1 = some o := (N₁ _ (List.mem_append_right _ k1)).1
        have e2 : q = (q.1, o) := Prod.ext rfl (Option.some.inj (g1.symm.trans g2))
        rw [e2]; exact N' _ (List.mem_cons_of_mem _ ((hJ _ _ _ hj).1 _ ho))
      · have := (N₁ q (List.mem_append_left _ hq)).2.2
        rw [ho] at this; cases this
    · exact N' _ (List.mem_cons_of_mem _ hq)
  cases f with
  | ret v => exact .ret p
  | brk => exact .brk p
  | next => exact .next (fin p)
  | cont => exact .cont (fin p)
end
end Mine
end
section -- KdpM
open PySem PySem.W PySem.Calls PyProof.Rows
namespace Mine
theorem nameFr {P : Prop} {h₀ h : Heap} {L : Addr} {m : Str → Option Value} (F : Fr h₀ L h m) (k : ∀ m', m = m' → Fr h₀ L h m' → P) : P := k m rfl F
theorem map3 (m M0 : Str → Option Value) (a b c : Str) (h : ∀ z, z ≠ a → z ≠ b → z ≠ c → m z = M0 z) : m = fun z => if z = a then m a else if z = b then m b else if z = c then m c else M0 z := by
  funext z
  by_cases h1 : z = a
  · rw [if_pos h1, h1]
  · by_cases h2 : z = b
    · rw [if_neg h1, if_pos h2, h2]
    · by_cases h3 : z = c
      · rw [if_neg h1, if_neg h2, if_pos h3, h3]
      · rw [if_neg h1, if_neg h2, if_neg h3, h z h1 h2 h3]
/-- long division: i of k digits of n bits of x are through -/
structure LInv (x y : Int) (n k i : Nat) (r : Int) (ql : List Int) : Prop where
  r0 : 0 ≤ r
  r1 : r < y
  rr : r = x / 2 ^ (n * (k - i)) % y
  qq : ql.foldl (fun a q => a * 2 ^ n + q) 0 = x / 2 ^ (n * (k - i)) / y
  len : ql.length = i
  dig : ∀ q ∈ ql, 0 ≤ q ∧ q < 2 ^ n
theorem LInv.start {x y : Int} {n k : Nat} (hx : 0 ≤ x) (hk : x < 2 ^ (n * k)) (hy : 0 < y) : LInv x y n k 0 0 [] := by
  have e : x / 2 ^ (n * (k - 0)) = 0 := by rw [Nat.sub_zero]; exact Int.ediv_eq_zero_of_lt hx hk
  exact ⟨Int.le_refl _, hy, by rw [e]; simp, by rw [e]; simp, rfl, fun _ h => nomatch h⟩
theorem LInv.step {x y : Int} {n k i : Nat} {r : Int} {ql : List Int} (hx : 0 ≤ x) (hy : 0 < y) (hi : i < k) (h : LInv x y n k i r ql) :
    LInv x y n k (i + 1) ((r * 2 ^ n + x / 2 ^ (n * (k - 1 - i)) % 2 ^ n).fmod y) (ql ++ [(r * 2 ^ n + x / 2 ^ (n * (k - 1 - i)) % 2 ^ n).fdiv y]) := by
  obtain ⟨h0, h1, h2, h3, h4, h5⟩ := h
  have ek : k - (i + 1) = k - 1 - i := by omega
  have hB : (0 : Int) < 2 ^ n := Int.pow_pos (by decide)
  rw [Int.fmod_eq_emod_of_nonneg _ (Int.le_of_lt hy), Int.fdiv_eq_ediv_of_nonneg _ (Int.le_of_lt hy)]
  -- X' = X * B + d
  have eX : x / 2 ^ (n * (k - i)) = x / 2 ^ (n * (k - 1 - i)) / 2 ^ n := by
    rw [Int.ediv_ediv_of_nonneg (Int.le_of_lt (Int.pow_pos (by decide))), ← Int.pow_add]
    congr 2
    have : k - i = k - 1 - i + 1 := by omega
    rw [this, Nat.mul_add]; omega
  generalize hX' : x / 2 ^ (n * (k - 1 - i)) = X' at *
  have hX0 : 0 ≤ X' := by rw [← hX']; exact Int.ediv_nonneg hx (Int.le_of_lt (Int.pow_pos (by decide)))
  rw [eX] at h2 h3
  have hd0 : 0 ≤ X' % 2 ^ n := Int.emod_nonneg _ (Int.ne_of_gt hB)
  have hd1 : X' % 2 ^ n < 2 ^ n := Int.emod_lt_of_pos _ hB
  have hX2 : X' = (X' / 2 ^ n / y * y + r) * 2 ^ n + X' % 2 ^ n := by
    have e1 := Int.mul_ediv_add_emod X' (2 ^ n)
    have e2 := Int.mul_ediv_add_emod (X' / 2 ^ n) y
    rw [← h2, Int.mul_comm] at e2
    rw [e2, Int.mul_comm]
    exact e1.symm
  have hT : X' = X' / 2 ^ n / y * 2 ^ n * y + (r * 2 ^ n + X' % 2 ^ n) := by
    rw [Int.add_mul] at hX2
    have e3 : X' / 2 ^ n / y * y * 2 ^ n = X' / 2 ^ n / y * 2 ^ n * y := by rw [Int.mul_assoc, Int.mul_comm y, ← Int.mul_assoc]
    rw [e3] at hX2
    omega
  generalize hQ : X' / 2 ^ n / y * 2 ^ n = Q at *
  generalize hT2 : r * 2 ^ n + X' % 2 ^ n = T at *
  have em : X' % y = T % y := by rw [hT, Int.add_comm, Int.add_mul_emod_self_right]
  have ed : X' / y = Q + T / y := by rw [hT, Int.add_comm, Int.add_mul_ediv_right _ _ (Int.ne_of_gt hy), Int.add_comm]
  have hT0 : 0 ≤ T := by
    rw [← hT2]
    have := Int.mul_nonneg h0 (Int.le_of_lt hB)
    omega
  have hT1 : T < 2 ^ n * y := by
    rw [← hT2]
    have e4 : (r + 1) * 2 ^ n ≤ y * 2 ^ n := Int.mul_le_mul_of_nonneg_right (by omega) (Int.le_of_lt hB)
    rw [Int.add_mul, Int.one_mul, Int.mul_comm y] at e4
    omega
  refine ⟨Int.emod_nonneg _ (Int.ne_of_gt hy), Int.emod_lt_of_pos _ hy, by rw [ek, hX', em], ?_, by rw [List.length_append, h4]; rfl, fun q hq => ?_⟩
  · rw [List.foldl_append, h3, ek, hX']
    show X' / 2 ^ n / y * 2 ^ n + T / y = X' / y
    rw [hQ, ed]
  · rcases List.mem_append.mp hq with hq | hq
    · exact h5 q hq
    · rw [List.mem_singleton.mp hq]
      exact ⟨Int.ediv_nonneg hT0 (Int.le_of_lt hy), Int.ediv_lt_of_lt_mul hy hT1⟩
theorem dval_app (as bs : List Int) (n l : Nat) : ∀ k, l + k ≤ as.length → dval (as ++ bs) n l k = dval as n l k
  | 0, _ => rfl
  | k + 1, h => by
    rw [dval, dval, dval_app as bs n l k (by omega)]
    have : (as ++ bs).getD (l + k) 0 = as.getD (l + k) 0 := by
      simp [List.getD_eq_getElem?_getD, List.getElem?_append_left (show l + k < as.length by omega)]
    rw [this]
theorem dval_cons (a : Int) (as : List Int) (n : Nat) : ∀ k, dval (a :: as) n 0 (k + 1) = a + dval as n 0 k * 2 ^ n
  | 0 => by simp [dval]
  | k + 1 => by
    rw [dval, dval_cons a as n k, dval]
    have : (a :: as).getD (0 + (k + 1)) 0 = as.getD (0 + k) 0 := by simp [List.getD_eq_getElem?_getD]
    rw [this, Int.add_mul, Nat.mul_add, Nat.mul_one, Int.pow_add, ← Int.mul_assoc]
    omega
theorem dval_rev (n : Nat) (ql : List Int) : dval ql.reverse n 0 ql.reverse.length = ql.foldl (fun a q => a * 2 ^ n + q) 0 := by
  have key : ∀ l : List Int, dval l n 0 l.length = l.foldr (fun q a => a * 2 ^ n + q) 0 := by
    intro l
    induction l with
    | nil => rfl
    | cons a l ih => rw [List.length_cons, dval_cons, ih, List.foldr_cons]; omega
  rw [key, List.foldr_reverse]
end Mine
end
section -- KtabM
open PySem PySem.W PySem.Calls PyProof.Rows
namespace Mine
structure TFa (h : Heap) (c1 : Addr) (oc1 : Obj) (vs1 : Array Value) (tq1 : Tok) (c2 : Addr) (oc2 : Obj) (vs2 : Array Value) (tq2 : Tok) : Prop where
  n1 : c1 ≠ 65
  n2 : c1 ≠ 72
  n3 : c2 ≠ 65
  n4 : c2 ≠ 72
  g1 : h.get? 65 = some (tab65 c1)
  g2 : h.get? 72 = some (tab72 c2)
  o1 : h.get? c1 = some oc1
  d1 : oc1.data = .fields vs1
  v1 : vs1[1]? = some (.str i2dQ tq1)
  o2 : h.get? c2 = some oc2
  d2 : oc2.data = .fields vs2
  v2 : vs2[1]? = some (.str d2iQ tq2)
/-- both code tables are filled -/
def TF (h : Heap) : Prop := ∃ c1 oc1 vs1 tq1 c2 oc2 vs2 tq2, TFa h c1 oc1 vs1 tq1 c2 oc2 vs2 tq2
/-- both are filled, anew -/
def TF0 (h₀ h : Heap) : Prop := ∃ c1 oc1 vs1 tq1 c2 oc2 vs2 tq2, TFa h c1 oc1 vs1 tq1 c2 oc2 vs2 tq2 ∧ h₀.get? c1 = none ∧ h₀.get? c2 = none
/-- both code tables are empty -/
def TE (h : Heap) : Prop := h.get? 65 = some (tabObj #[]) ∧ h.get? 72 = some (tabObj #[])
theorem frBut {h₀ h h' : Heap} {L : Addr} {m : Str → Option Value} {as : List Addr} {news : List (Addr × Obj)} (F : Fr h₀ L h m) (N : News h₀ L h news) (k : KeepBut as h h') (ha : ∀ a ∈ as, ∃ o, (a, o) ∈ news) : Fr h₀ L h' m := by
  refine ⟨F.ns.at' fun o e => k _ o (fun hm => ?_) e, fun b o e => k b o (fun hm => ?_) (F.keep b o e), F.above⟩
  · obtain ⟨o, ho⟩ := ha _ hm
    exact (N _ ho).2.1 rfl
  · obtain ⟨o', ho⟩ := ha _ hm
    have := (N _ ho).2.2
    dsimp only at this
    rw [e] at this; cases this
theorem newsBut {h₀ h h' : Heap} {L : Addr} {m : Str → Option Value} {as : List Addr} {news : List (Addr × Obj)} (F : Fr h₀ L h m) (N : News h₀ L h news) (k : KeepBut as h h') (ha : ∀ a ∈ as, ∃ o, (a, o) ∈ news) (news' : List (Addr × Obj))
    (hn : ∀ p ∈ news', (p ∈ news ∧ p.1 ∉ as) ∨ (p.1 ∈ as ∧ h'.get? p.1 = some p.2) ∨ (h.get? p.1 = none ∧ h'.get? p.1 = some p.2)) : News h₀ L h' news' := by
  intro p hp
  rcases hn p hp with ⟨h1, h2⟩ | ⟨h1, h2⟩ | ⟨h1, h2⟩
  · exact ⟨k _ _ h2 (N p h1).1, (N p h1).2⟩
  · obtain ⟨o, ho⟩ := ha _ h1
    exact ⟨h2, (N _ ho).2⟩
  · obtain ⟨oL, _, _, hL, _⟩ := F.ns
    refine ⟨h2, fun e => ?_, ?_⟩
    · rw [e, hL] at h1; cases h1
    · cases q : h₀.get? p.1 with
      | none => rfl
      | some o' => have := F.keep _ _ q; rw [this] at h1; cases h1
end Mine
end
section -- Kdp
theorem Mine.wTopOff8 : True := by w_top off; trivial
local macro_rules | `(tactic| walk_at "no such line") => `(tactic| fail)
local macro_rules | `(tactic| walk_at "no such line") => `(tactic| fail)
local macro_rules | `(tactic| walk_at "no such line") => `(tactic| fail)
local macro_rules | `(tactic| walk_at "no such line") => `(tactic| fail)
local macro_rules | `(tactic| walk_at "no such line") => `(tactic| fail)
local macro_rules | `(tactic| walk_at "no such line") => `(tactic| fail)
local macro_rules | `(tactic| walk_at "no such line") => `(tactic| fail)
local macro_rules | `(tactic| walk_at "no such line") => `(tactic| fail)
local macro_rules | `(tactic| walk_at "no such line") => `(tactic| fail)
local macro_rules | `(tactic| walk_at "no such line") => `(tactic| fail)
local macro_rules | `(tactic| walk_at "no such line") => `(tactic| fail)
local macro_rules | `(tactic| walk_at "no such line") => `(tactic| fail)
local macro_rules | `(tactic| walk_at "no such line") => `(tactic| fail)
local macro_rules | `(tactic| walk_at "no such line") => `(tactic| fail)
local macro_rules | `(tactic| walk_at "no such line") => `(tactic| fail)
local macro_rules | `(tactic| walk_at "no such line") => `(tactic| fail)
local macro_rules | `(tactic| walk_at "no such line") => `(tactic| fail)
local macro_rules | `(tactic| walk_at "no such line") => `(tactic| fail)
local macro_rules | `(tactic| walk_at "no such line") => `(tactic| fail)
local macro_rules | `(tactic| walk_at "no such line") => `(tactic| fail)
local macro_rules | `(tactic| walk_at "no such line") => `(tactic| fail)
local macro_rules | `(tactic| walk_at "no such line") => `(tactic| fail)
local macro_rules | `(tactic| walk_at "no such line") => `(tactic| fail)
local macro_rules | `(tactic| walk_at "no such line") => `(tactic| fail)
local macro_rules | `(tactic| walk_at "no such line") => `(tactic| fail)
local macro_rules | `(tactic| walk_at "eval BinOp") => `(tactic| (k_here; k_dflt (refine' Mine.pev_ok ?F ?e ?c ?k ?_; (case F => k_asm); (case e => exact rfl); (case c => (repeat (first | exact trivial | refine And.intro (by mul_fits) ?_))); (case k => rfl); k_whole)))
local macro_rules | `(tactic| walk_at "spliced") => `(tactic| (k_here; k_dflt (refine' Mine.args_ok ?F ?k ?e ?c ?_; (case F => k_asm); (case k => rfl); (case e => exact rfl); (case c => (repeat (first | exact trivial | refine And.intro (by mul_fits) ?_))); k_whole)))
local macro_rules | `(tactic| walk_at "isTrue Compare") => `(tactic| (k_here; k_dflt (refine' Mine.cmp_ok ?F ?e ?c ?k ?n ?_; (case F => k_asm); (case e => exact rfl); (case c => (repeat (first | exact trivial | refine And.intro (by mul_fits) ?_))); (case k => rfl); (case n => rfl); k_whole)))
local macro_rules | `(tactic| walk_at "exec Assign") => `(tactic| (k_here; k_dflt (refine' Mine.assign_ok0 ?F ?N ?e ?c ?k ?x ?s ?_; (case F => k_asm); (case N => k_asm); (case e => exact rfl); (case c => (repeat (first | exact trivial | refine And.intro (by mul_fits) ?_))); (case k => rfl); (case x => rfl); (case s => rfl); k_whole; intro h' F' N'; (try k_sweep))))
local macro_rules | `(tactic| walk_at "exec Return some") => `(tactic| (k_here; k_dflt (refine' Mine.ret_ok ?F ?e ?c ?k ?_; (case F => k_asm); (case e => exact rfl); (case c => (repeat (first | exact trivial | refine And.intro (by mul_fits) ?_))); (case k => rfl); k_whole)))
local macro_rules | `(tactic| k_ne) => `(tactic| (refine PySem.W.neN ?_; (try dsimp only); first
  | with_reducible assumption
  | ((with_reducible refine Nat.ne_of_lt ?_); (repeat with_reducible refine Mine.nzLT ?_); (first | with_reducible assumption | exact Mine.nzA1 (by with_reducible assumption) | exact Mine.nzA2 (by with_reducible assumption) | exact Mine.nzZ2 (by with_reducible assumption) | exact Mine.nzA3 (by with_reducible assumption) | exact Mine.nzZ3 (by with_reducible assumption) | exact Mine.nzA4 (by with_reducible assumption) | exact Mine.nzZ4 (by with_reducible assumption) | exact Mine.nzA5 (by with_reducible assumption) | exact Mine.nzZ5 (by with_reducible assumption) | exact Mine.nzA6 (by with_reducible assumption) | exact Mine.nzZ6 (by with_reducible assumption) | exact Mine.nzA7 (by with_reducible assumption) | exact Mine.nzZ7 (by with_reducible assumption) | exact Mine.nzA8 (by with_reducible assumption) | exact Mine.nzZ8 (by with_reducible assumption) | exact Mine.nzA9 (by with_reducible assumption) | exact Mine.nzZ9 (by with_reducible assumption) | exact Mine.nzA10 (by with_reducible assumption) | exact Mine.nzZ10 (by with_reducible assumption) | exact Mine.nzA11 (by with_reducible assumption) | exact Mine.nzZ11 (by with_reducible assumption) | exact Mine.nzA12 (by with_reducible assumption) | exact Mine.nzZ12 (by with_reducible assumption) | exact Mine.nzA13 (by with_reducible assumption) | exact Mine.nzZ13 (by with_reducible assumption) | exact Mine.nzA14 (by with_reducible assumption) | exact Mine.nzZ14 (by with_reducible assumption) | exact Mine.nzA15 (by with_reducible assumption) | exact Mine.nzZ15 (by with_reducible assumption) | exact Mine.nzA16 (by with_reducible assumption) | exact Mine.nzZ16 (by with_reducible assumption)))
  | ((with_reducible refine Nat.ne_of_gt ?_); (repeat with_reducible refine Mine.nzLT ?_); (first | with_reducible assumption | exact Mine.nzA1 (by with_reducible assumption) | exact Mine.nzA2 (by with_reducible assumption) | exact Mine.nzZ2 (by with_reducible assumption) | exact Mine.nzA3 (by with_reducible assumption) | exact Mine.nzZ3 (by with_reducible assumption) | exact Mine.nzA4 (by with_reducible assumption) | exact Mine.nzZ4 (by with_reducible assumption) | exact Mine.nzA5 (by with_reducible assumption) | exact Mine.nzZ5 (by with_reducible assumption) | exact Mine.nzA6 (by with_reducible assumption) | exact Mine.nzZ6 (by with_reducible assumption) | exact Mine.nzA7 (by with_reducible assumption) | exact Mine.nzZ7 (by with_reducible assumption) | exact Mine.nzA8 (by with_reducible assumption) | exact Mine.nzZ8 (by with_reducible assumption) | exact Mine.nzA9 (by with_reducible assumption) | exact Mine.nzZ9 (by with_reducible assumption) | exact Mine.nzA10 (by with_reducible assumption) | exact Mine.nzZ10 (by with_reducible assumption) | exact Mine.nzA11 (by with_reducible assumption) | exact Mine.nzZ11 (by with_reducible assumption) | exact Mine.nzA12 (by with_reducible assumption) | exact Mine.nzZ12 (by with_reducible assumption) | exact Mine.nzA13 (by with_reducible assumption) | exact Mine.nzZ13 (by with_reducible assumption) | exact Mine.nzA14 (by with_reducible assumption) | exact Mine.nzZ14 (by with_reducible assumption) | exact Mine.nzA15 (by with_reducible assumption) | exact Mine.nzZ15 (by with_reducible assumption) | exact Mine.nzA16 (by with_reducible assumption) | exact Mine.nzZ16 (by with_reducible assumption)))
  | ((repeat with_reducible refine Mine.nzSS ?_); (first | with_reducible refine Mine.nzS0 ?_ | with_reducible refine Mine.nz0S ?_); (repeat (first | with_reducible exact Nat.le_refl _ | with_reducible refine Mine.nzLS ?_)); done)
  | (first | with_reducible assumption | exact Mine.nzA1 (by with_reducible assumption) | exact Mine.nzA2 (by with_reducible assumption) | exact Mine.nzZ2 (by with_reducible assumption) | exact Mine.nzA3 (by with_reducible assumption) | exact Mine.nzZ3 (by with_reducible assumption) | exact Mine.nzA4 (by with_reducible assumption) | exact Mine.nzZ4 (by with_reducible assumption) | exact Mine.nzA5 (by with_reducible assumption) | exact Mine.nzZ5 (by with_reducible assumption) | exact Mine.nzA6 (by with_reducible assumption) | exact Mine.nzZ6 (by with_reducible assumption) | exact Mine.nzA7 (by with_reducible assumption) | exact Mine.nzZ7 (by with_reducible assumption) | exact Mine.nzA8 (by with_reducible assumption) | exact Mine.nzZ8 (by with_reducible assumption) | exact Mine.nzA9 (by with_reducible assumption) | exact Mine.nzZ9 (by with_reducible assumption) | exact Mine.nzA10 (by with_reducible assumption) | exact Mine.nzZ10 (by with_reducible assumption) | exact Mine.nzA11 (by with_reducible assumption) | exact Mine.nzZ11 (by with_reducible assumption) | exact Mine.nzA12 (by with_reducible assumption) | exact Mine.nzZ12 (by with_reducible assumption) | exact Mine.nzA13 (by with_reducible assumption) | exact Mine.nzZ13 (by with_reducible assumption) | exact Mine.nzA14 (by with_reducible assumption) | exact Mine.nzZ14 (by with_reducible assumption) | exact Mine.nzA15 (by with_reducible assumption) | exact Mine.nzZ15 (by with_reducible assumption) | exact Mine.nzA16 (by with_reducible assumption) | exact Mine.nzZ16 (by with_reducible assumption))
  | (apply Ne.symm; (first | with_reducible assumption | exact Mine.nzA1 (by with_reducible assumption) | exact Mine.nzA2 (by with_reducible assumption) | exact Mine.nzZ2 (by with_reducible assumption) | exact Mine.nzA3 (by with_reducible assumption) | exact Mine.nzZ3 (by with_reducible assumption) | exact Mine.nzA4 (by with_reducible assumption) | exact Mine.nzZ4 (by with_reducible assumption) | exact Mine.nzA5 (by with_reducible assumption) | exact Mine.nzZ5 (by with_reducible assumption) | exact Mine.nzA6 (by with_reducible assumption) | exact Mine.nzZ6 (by with_reducible assumption) | exact Mine.nzA7 (by with_reducible assumption) | exact Mine.nzZ7 (by with_reducible assumption) | exact Mine.nzA8 (by with_reducible assumption) | exact Mine.nzZ8 (by with_reducible assumption) | exact Mine.nzA9 (by with_reducible assumption) | exact Mine.nzZ9 (by with_reducible assumption) | exact Mine.nzA10 (by with_reducible assumption) | exact Mine.nzZ10 (by with_reducible assumption) | exact Mine.nzA11 (by with_reducible assumption) | exact Mine.nzZ11 (by with_reducible assumption) | exact Mine.nzA12 (by with_reducible assumption) | exact Mine.nzZ12 (by with_reducible assumption) | exact Mine.nzA13 (by with_reducible assumption) | exact Mine.nzZ13 (by with_reducible assumption) | exact Mine.nzA14 (by with_reducible assumption) | exact Mine.nzZ14 (by with_reducible assumption) | exact Mine.nzA15 (by with_reducible assumption) | exact Mine.nzZ15 (by with_reducible assumption) | exact Mine.nzA16 (by with_reducible assumption) | exact Mine.nzZ16 (by with_reducible assumption)))
  | omega))
local macro_rules | `(tactic| k_lt $h:ident) => `(tactic| (replace $h := Mine.allLt1 $h; dsimp only [Mine.AllLt1, Mine.AllLtC] at $h:ident))
open PySem PySem.W PyProof.Rows
namespace Mine
set_option Elab.async false
local macro_rules | `(tactic| walk_at "call ref") => `(tactic| (k_here; (with_reducible show wpAny _ _ (call (Value.ref 70) _) _ _ _); k_dflt (refine' i2d_T0 _ _ _ _ _ _ _ _ _ _ _ _ _ _ _ _ _ _ _ _ _ _ _ _ _ _ _ ?k1 ?k2 ?k3 ?k4 ?k5 ?k6 ?k7 ?k8 ?k9 ?k10 ?_; (case k1 => k_asm); (case k2 => k_asm); (case k3 => k_asm); (case k4 => k_asm); (case k5 => k_asm); (case k6 => exact rfl); (case k7 => k_asm); (case k8 => assumption); (case k9 => ktr_room); (case k10 => ktr_units); k_whole); intro d' c' oc' vs' tq' its' e' h' tk' hD' hd1' hd2' F' N'; (try dsimp only); (try k_fold)))
local macro_rules | `(tactic| walk_at "exec For Name Call cons nil") => `(tactic| (k_here; (rename Fr _ _ _ _ => lF'); (with_unfolding_all refine' For_invVF lF' ?k1 ?k2 ?_; (case k1 => exact rfl); (case k2 => exact rfl); k_whole)))
local macro_rules | `(tactic| walk_at "call type:reversed") => `(tactic| (k_here; k_dflt (refine' krv_reversed ?F ?N ?l ?_; (case F => k_asm); (case N => k_asm); (case l => is_list); k_whole); intro D' h' F' N' l1; (try k_lt l1)))
local macro_rules | `(tactic| walk_at "pyIter ref") => `(tactic| fail)
local macro_rules | `(tactic| walk_at "call builtin:list.append") => `(tactic| (k_here; (try dsimp only); (simp only [List.cons_append, List.nil_append]); (with_reducible show wpAny _ _ (call (Value.builtin _) [Value.ref _, _]) _ _ _); k_dflt (refine' append_K ?k1 ?k2 ?k3 ?_ ?z; (case k1 => k_asm); (case k2 => k_asm); (case k3 => k_upd); (case z => assumption); k_whole); intro h' F' N'; (try k_sweep)))
local macro_rules | `(tactic| walk_at "call builtin:list.reverse") => `(tactic| (k_here; (with_reducible show wpAny _ _ (call (Value.builtin _) [Value.ref _]) _ _ _); k_dflt (refine' kl_reverse ?F ?N ?e ?U ?z ?_; (case F => k_asm); (case N => k_asm); (case e => exact rfl); (case U => k_upd); (case z => assumption); k_whole); intro h' F' N'; (try k_sweep)))
theorem intsRev : ∀ {vs : List Value} {ns : List Int}, IntsAre vs ns → IntsAre vs.reverse ns.reverse
  | _, _, .nil => .nil
  | _, _, .cons n t h => by rw [List.reverse_cons, List.reverse_cons]; exact IntsAre.append (intsRev h) (.cons n t .nil)
theorem not_mem72' {c : Addr} (h : c ≠ 72) : c ∉ ([72] : List Addr) := fun hm => h (List.mem_singleton.mp hm)
theorem neTab0 {h : Heap} {c a : Addr} {oc : Obj} {vs : Array Value} {q : Str} {t : Tok} (ho : h.get? c = some oc) (ha : h.get? a = some (tabObj #[])) (hd : oc.data = .fields vs) (hv : vs[1]? = some (.str q t)) : c ≠ a := by
  rintro rfl
  rw [ha] at ho
  cases ho
  cases hd
  cases hv
theorem neTab65 {h : Heap} {c a c' : Addr} {oc : Obj} {vs : Array Value} {q : Str} {t : Tok} (ho : h.get? c = some oc) (ha : h.get? a = some (tab65 c')) (hd : oc.data = .fields vs) (hv : vs[1]? = some (.str q t)) : c ≠ a := by
  rintro rfl
  rw [ha] at ho
  cases ho
  cases hd
  cases hv
theorem neTab72 {h : Heap} {c a c' : Addr} {oc : Obj} {vs : Array Value} {q : Str} {t : Tok} (ho : h.get? c = some oc) (ha : h.get? a = some (tab72 c')) (hd : oc.data = .fields vs) (hv : vs[1]? = some (.str q t)) : c ≠ a := by
  rintro rfl
  rw [ha] at ho
  cases ho
  cases hd
  cases hv
theorem keepBut_hide {h g h' : Heap} {as : List Addr} (hg : hideAll h as = g) (k : ∀ x o, g.get? x = some o → h'.get? x = some o) : KeepBut as h h' := fun b o hb e => k b o (by rw [← hg]; exact hideAll_get _ e hb)
theorem none_hide {h g : Heap} {as : List Addr} {d : Addr} (hg : hideAll h as = g) (hn : g.get? d = none) (hd : d ∉ as) : h.get? d = none := by
  cases q : h.get? d with
  | none => rfl
  | some o => rw [← hg, hideAll_get _ q hd] at hn; cases hn
theorem notIn2 {c a b : Addr} (h : c ≠ a) (h' : c ≠ b) : c ∉ ([a, b] : List Addr) := fun hm => by
  rcases List.mem_cons.mp hm with e | hm
  · exact h e
  · exact h' (List.mem_singleton.mp hm)
def AllNe (d : Nat) : List (Addr × Obj) → Prop
  | [] => True
  | p :: r => @Ne Nat p.1 d ∧ AllNe d r
theorem AllNe.of {d : Addr} : ∀ {l : List (Addr × Obj)}, (∀ p ∈ l, p.1 ≠ d) → AllNe d l
  | [], _ => trivial
  | _ :: _, h => ⟨h _ (.head _), AllNe.of fun p hp => h p (.tail _ hp)⟩
theorem div2_ctr (w : World) (news : List (Addr × Obj)) (x y n : Int) (t1 t2 t3 : Tok) :
    Ctr w 4 40 56 news [.int x t1, .int y t2, .int n t3] (0 ≤ x ∧ x < 1000000 ∧ 0 < y ∧ y < 1000 ∧ 0 < n ∧ n < 100)
      (fun h₀ L m s Q => ∀ (d : Addr) (t1 t2 : Tok) (h' : Heap) (tk' : Nat), Fr h₀ L h' m → News h₀ L h' ((d, tup2I (x.fdiv y) (x.fmod y) t1 t2) :: news) → AllNe d news → Q (.ref d) { s with heap := h', toks := tk' }) := by
  intro mean mg mb dp un gd cn cs a ccd cl outer A₀ base h₀ L m s Q E B F X N T hk hpre hdp hun hret
  refine div2_spec w x y n t1 t2 t3 mean mg mb dp un gd cn cs a ccd cl outer A₀ base h₀ L m s Q E B F X T hk hpre hdp hun fun d t1 t2 h' tk' kp hn ho => hret d t1 t2 h' tk' (frKeep F kp) (newsKeep1 F N kp hn ho) (AllNe.of fun p hp e => ?_)
  have := (N p hp).1
  rw [e, hn] at this; cases this
local macro_rules | `(tactic| walk_at "call ref") => `(tactic| (k_here; (with_reducible show wpAny _ _ (call (Value.ref 56) _) _ _ _); k_dflt (refine' div2_ctr _ _ _ _ _ _ _ _ _ _ _ _ _ _ _ _ _ _ _ _ _ _ _ _ _ _ _ _ ?k1 ?k2 ?k3 ?k4 ?k5 ?k6 ?k7 ?k8 ?k9 ?_; (case k1 => k_asm); (case k2 => k_asm); (case k3 => k_asm); (case k4 => k_asm); (case k5 => k_asm); (case k6 => first | exact rfl | assumption); (case k7 => assumption); (case k8 => ktr_room); (case k9 => ktr_units); k_whole); intro d' ta' tb' h' tk' F' N' hne'; (try simp only [AllNe, and_true] at hne'); (try dsimp only); (try k_fold)))
set_option maxRecDepth 100000 in
set_option maxHeartbeats 8000000 in
set_option pp.deepTerms false in
set_option pp.maxSteps 6000 in
theorem dp_T0 (w : World) (x y : Int) (k : Nat) (t1 t2 : Tok) :
    CtrT w 24 240 84 [(65, tabObj #[]), (72, tabObj #[])] [.int x t1, .int y t2] (fun _ => 0 ≤ x ∧ x < 128 ∧ 0 < y ∧ y < 128 ∧
      (0 ≤ x ∧ x < 128 ∧ 0 < (Builtin.Int.intBits y : Int) ∧ (Builtin.Int.intBits y : Int) < 8 ∧ (↑(Builtin.Int.intBits x) + (Builtin.Int.intBits y : Int) - 1).fdiv (Builtin.Int.intBits y) = (k : Int) ∧ k ≤ 7 ∧ x < 2 ^ ((Builtin.Int.intBits y : Int).toNat * k) ∧ (x = 0 → k = 0) ∧ (x ≠ 0 → 0 < k)))
      (fun _ s Q => ∀ (d : Addr) (t1 t2 : Tok) (hz : Heap) (tz : Nat), KeepBut [65, 72] s.heap hz → TF0 s.heap hz → s.heap.get? d = none → hz.get? d = some (tup2I (x / y) (x % y) t1 t2) → Q (.ref d) { s with heap := hz, toks := tz }) := by
  dsimp only [CtrT, P0, LS]
  k_fill
  intro mean mg mb dp un gd cn cs a ccd cl outer A₀ base h₀ L m s Q E B F X N T hk C1 C2 hpre hdp hun hret
  obtain ⟨hp1, hp2, hp3, hp4, hpI⟩ := hpre
  refine wpAny_call ?_
  k_dflt (refine' enterT ?k1 ?k2 ?k3 ?k4 ?k5 ?kA ?kF ?kK ?k6 ?k7 ?k8 ?k9 ?kB ?kC1 ?kC2 ?_ ?c2 ?c3 ?c4 ?c5; (case kA => exact rfl); (case kF => exact rfl); (case kK => assumption); (case k1 => k_asm); (case k2 => k_asm); (case k3 => k_asm); (case k4 => k_asm); (case k5 => k_asm); (case k6 => k_is); (case k7 => k_is); (case k8 => ktr_room); (case k9 => exact BindsTo.of_eq rfl); (case c5 => decide); (case kB => exact locs rfl); (case kC1 => assumption); (case kC2 => assumption); (case c2 => exact rfl); (case c3 => exact rfl); (case c4 => exact rfl); k_whole)
  generalize hg : hideAll s.heap (List.map (·.1) [(65, tabObj #[]), (72, tabObj #[])]) = g'
  clear C1 C2 N F B X T
  intro L' h' F' N' B' X' T' C1 C2 l1
  (try k_lt l1)
  (try dsimp only)
  (try k_lift B')
  (try k_fold)
  w_on
  k_steps
  (with_reducible rename Fr _ _ _ _ => kF)
  (with_reducible rename News _ _ _ _ => kN)
  rename_i d' c' oc' vs' tq' its' e' hq1 tkq hD' hd1' hd2' hq2 hq3 l' hq4 lq1 hq5 F91 N91 D' hq6 lq2
  refine nameFr kF (fun M0 hM0 kF => ?_)
  have nD := kN _ (.head _)
  have nd := kN _ (.tail _ (.tail _ (.head _)))
  have nL : L' < hq6.objs.size := kF.ns.lt
  have hnb : (Builtin.Int.intBits y : Int).toNat = Builtin.Int.intBits y := Int.toNat_natCast _
  refine wpAny_pyIter_revIter (l := d') (i := (its'.toList.length : Int) - 1) ⟨_, nD.1, rfl, rfl⟩ ?_
  refine loopLit [(d', W.listOf its' e')] (fun i m₁ ns => ∃ (r : Int) (qs : Array Value) (e : Nat) (ql : List Int), (∀ z, z ≠ Str.ofString "q_digit" → z ≠ Str.ofString "a_digit" → z ≠ Str.ofString "r" → m₁ z = M0 z) ∧ (∃ tr, m₁ (Str.ofString "r") = some (Value.int r tr)) ∧
      ns = [(l', W.listOf qs e), (d', W.listOf its' e'), (c', oc'), (65, tab65 c'), (72, tabObj #[])] ∧ IntsAre qs.toList ql ∧ LInv x y (Builtin.Int.intBits y) k i r ql)
    (Walks.listRev (A := _) rfl D' d' (Nat.ne_of_lt (by omega)) its') ?_ ?_ ?_ ?_ ?_ kF (fun p hp => kN p (.tail _ hp)) ?_ ?_ ?_ ?_
  · rintro i h ⟨_, ⟨o, ho, _⟩, _⟩; exact ⟨o, ho⟩
  · intro b hb
    have hb' : b = D' ∨ b = d' := by simpa using hb
    rcases hb' with rfl | rfl
    · exact .inl rfl
    · exact .inr (.inl ⟨_, List.mem_singleton.mpr rfl⟩)
  · intro hm
    have hb' : L' = D' ∨ L' = d' := by
      rcases List.mem_cons.mp hm with e | hm
      · exact .inl e
      · exact .inr (List.mem_singleton.mp hm)
    rcases hb' with e | e
    · exact nD.2.1 e.symm
    · exact nd.2.1 e.symm
  · exact nD.2.2
  · exact ⟨Nat.zero_le _, ⟨_, nD.1, rfl, by simp; rfl⟩, ⟨_, nd.1, rfl, _, rfl⟩⟩
  · exact ⟨0, #[], 0, [], fun _ _ _ _ => rfl, ⟨_, by rw [← hM0]; rfl⟩, rfl, .nil, LInv.start hp1 (by rw [← hnb]; exact hpI.2.2.2.2.2.2.1) hp3⟩
  · rintro i m₁ ns ⟨r, qs, e, ql, -, -, rfl, -, -⟩
    refine ⟨fun p hp => by rw [List.mem_singleton.mp hp]; exact .tail _ (.head _), fun p hp => ?_⟩
    simp only [List.mem_cons, List.not_mem_nil, or_false] at hp
    rcases hp with rfl | rfl | rfl | rfl | rfl <;> dsimp only <;> exact Nat.ne_of_lt (by omega)
  · intro i v m₁ news₁ hh tkk it hi hP hJ F N
    obtain ⟨r, qs, e, ql, hm, ⟨tr, hmr⟩, rfl, hI, hLI⟩ := hJ
    have em := map3 _ _ _ _ _ hm
    rw [hmr] at em
    generalize m₁ (Str.ofString "q_digit") = vq at em
    generalize m₁ (Str.ofString "a_digit") = va at em
    subst em
    clear hm hmr
    obtain ⟨hsz, hdig⟩ := hD'
    rw [hsz] at hi
    obtain ⟨tv, hv⟩ := hdig (k - 1 - i) (by omega)
    rw [hsz, hv] at hP
    obtain rfl := Option.some.inj hP
    rw [hnb] at hv F
    have hd0 : 0 ≤ x / 2 ^ (Builtin.Int.intBits y * (k - 1 - i)) % 2 ^ Builtin.Int.intBits y := Int.emod_nonneg _ (Int.ne_of_gt (Int.pow_pos (by decide)))
    have hd1 : x / 2 ^ (Builtin.Int.intBits y * (k - 1 - i)) % 2 ^ Builtin.Int.intBits y < 2 ^ Builtin.Int.intBits y := Int.emod_lt_of_pos _ (Int.pow_pos (by decide))
    have hB1 : (2 : Int) ^ Builtin.Int.intBits y ≤ 128 := by
      have h4 : (2 : Nat) ^ (Builtin.Int.intBits y) ≤ 2 ^ 7 := Nat.pow_le_pow_right (by decide) (by have := hpI.2.2.2.1; omega)
      have h5 : (((2 : Nat) ^ (Builtin.Int.intBits y) : Nat) : Int) ≤ ((2 ^ 7 : Nat) : Int) := Int.ofNat_le.mpr h4
      simpa using h5
    have hr0 := hLI.r0
    have hr1 := hLI.r1
    have hqs : qs.size ≤ sizeLine := by
      have e1 := hI.length
      have e2 := hLI.len
      rw [sizeLine_eq]
      simp only [Array.length_toList] at e1
      omega
    have hT0 : 0 ≤ r * 2 ^ (Builtin.Int.intBits y : Int).toNat := by rw [hnb]; exact Int.mul_nonneg hr0 (Int.le_of_lt (Int.pow_pos (by decide)))
    have hT1 : r * 2 ^ (Builtin.Int.intBits y : Int).toNat ≤ 128 * 128 := by
      rw [hnb]
      have e1 : r * 2 ^ Builtin.Int.intBits y ≤ r * 128 := Int.mul_le_mul_of_nonneg_left hB1 hr0
      omega
    generalize hdg : x / 2 ^ (Builtin.Int.intBits y * (k - 1 - i)) % 2 ^ Builtin.Int.intBits y = dg at *
    have hcall : 0 ≤ r * 2 ^ (Builtin.Int.intBits y : Int).toNat + dg ∧ r * 2 ^ (Builtin.Int.intBits y : Int).toNat + dg < 1000000 ∧ 0 < y ∧ y < 1000 ∧ 0 < (Builtin.Int.intBits y : Int) ∧ (Builtin.Int.intBits y : Int) < 100 := ⟨by omega, by omega, hp3, by omega, hpI.2.2.1, by have := hpI.2.2.2.1; omega⟩
    subst hM0
    clear kF kN F91 N91 nD nd nL
    k_steps
    refine ⟨_, _, _, [(l', W.listOf (qs.push _) _), (d', W.listOf its' e'), (c', oc'), (65, tab65 c'), (72, tabObj #[])], rfl, (by assumption), cb_drop (by assumption) (by kcj_all), ?_⟩
    have st := LInv.step hp1 hp3 hi hLI
    rw [hdg] at st
    refine ⟨(r * 2 ^ (Builtin.Int.intBits y : Int).toNat + dg).fmod y, _, _, ql ++ [(r * 2 ^ (Builtin.Int.intBits y : Int).toNat + dg).fdiv y], fun z h1 h2 h3 => ?_, ⟨_, if_pos rfl⟩, rfl, ?_, ?_⟩
    · simp only [if_neg h1, if_neg h2, if_neg h3]
    · rw [Array.toList_push]
      exact IntsAre.append hI (.cons _ _ .nil)
    · rw [hnb]; exact st
  · intro m' news' hh tkk hJ F N
    obtain ⟨r, qs, e, ql, hm, ⟨tr, hmr⟩, rfl, hI, hLI⟩ := hJ
    have em := map3 _ _ _ _ _ hm
    rw [hmr] at em
    generalize m' (Str.ofString "q_digit") = vq at em
    generalize m' (Str.ofString "a_digit") = va at em
    subst em
    clear hm hmr
    obtain ⟨hsz, hdig⟩ := hD'
    rw [hsz] at hLI
    subst hM0
    clear kF kN F91 N91 nD nd nL
    have hqs : qs.toList.length ≤ sizeLine := by
      have e1 := hI.length
      have e2 := hLI.len
      rw [sizeLine_eq]
      omega
    (try dsimp only)
    k_steps
    (with_reducible rename Fr _ _ _ _ => jF)
    (with_reducible rename News _ _ _ _ => jN)
    have hLL : Heap.IsList _ l' qs.toList.reverse.toArray := ⟨_, (jN _ (.head _)).1, rfl, _, rfl⟩
    have jn : News g' L' _ [(72, tabObj #[])] := cb_drop jN (by kcj_all)
    have hl72 : l' ≠ 72 := fun e => by rw [e] at lq1; exact absurd lq1.2.2.2 (Nat.lt_irrefl _)
    have n65 := jN _ (.tail _ (.tail _ (.tail _ (.head _))))
    have nc' := jN _ (.tail _ (.tail _ (.head _)))
    k_here
    k_dflt (refine' d2i_T0 w _ qs.toList.reverse ql.reverse _ t1 _ _ _ _ _ _ _ _ _ _ _ _ _ _ _ _ _ _ _ _ _ ?k1 ?k2 ?k3 ?k4 ?k5 ?k6 ?kC1 ?kC2 ?k8 ?k9 ?k10 ?_; (case k1 => k_asm); (case k2 => k_asm); (case k3 => k_asm); (case k4 => exact jn); (case k5 => k_asm); (case k6 => exact rfl); (case kC1 => assumption); (case kC2 => assumption); (case k8 => exact ⟨hl72, hLL, intsRev hI, by rw [List.length_reverse, hLI.len]; exact hpI.2.2.2.2.2.1, hpI.2.2.1, hpI.2.2.2.1, fun q hq => by rw [hnb]; exact hLI.dig q (List.mem_reverse.mp hq)⟩); (case k9 => ktr_room); (case k10 => ktr_units); k_whole)
    intro t8 c8 oc8 vq8 tq8 h8 tz8 kb8 g8 hn8 hc8 hd8 hv8
    have hb8 : ∀ a ∈ [(72 : Addr)], ∃ o, (a, o) ∈ [(l', W.listOf qs.toList.reverse.toArray e), (d', W.listOf its' e'), (c', oc'), (65, tab65 c'), (72, tabObj #[])] := fun a ha => by
      rw [List.mem_singleton.mp ha]; exact ⟨_, .tail _ (.tail _ (.tail _ (.tail _ (.head _))))⟩
    have F8 := frBut jF jN kb8 hb8
    have N8 : News g' L' h8 [(c8, oc8), (c', oc'), (65, tab65 c'), (72, tab72 c8)] := newsBut jF jN kb8 hb8 _ fun p hp => by
      simp only [List.mem_cons, List.not_mem_nil, or_false] at hp
      rcases hp with rfl | rfl | rfl | rfl
      · exact .inr (.inr ⟨hn8, hc8⟩)
      · exact .inl ⟨by simp, not_mem72' (neTab0 nc'.1 (jN _ (.tail _ (.tail _ (.tail _ (.tail _ (.head _)))))).1 hd1' hd2')⟩
      · exact .inl ⟨by simp, not_mem72' (by decide : (65 : Nat) ≠ 72)⟩
      · exact .inr (.inl ⟨by simp, g8⟩)
    clear jF jN jn
    (try dsimp only)
    k_steps
    (with_reducible rename Fr _ _ _ _ => zF)
    (with_reducible rename News _ _ _ _ => zN)
    rename_i D9 h9 l9
    have z1 := zN _ (.head _)
    have z2 := (zN _ (.tail _ (.head _))).1
    have z3 := (zN _ (.tail _ (.tail _ (.head _)))).1
    have z4 := (zN _ (.tail _ (.tail _ (.tail _ (.head _))))).1
    have z5 := (zN _ (.tail _ (.tail _ (.tail _ (.tail _ (.head _)))))).1
    have er : r = x % y := by have := hLI.rr; simpa using this
    have eq : dval ql.reverse (Builtin.Int.intBits y : Int).toNat 0 ql.reverse.length = x / y := by
      have := hLI.qq
      rw [dval_rev, hnb]
      simpa using this
    have hD : D9 ∉ ([65, 72] : List Addr) := fun hm => by
      rcases List.mem_cons.mp hm with e | hm
      · rw [e] at l9; exact absurd l9.2.2.1 (Nat.lt_irrefl _)
      · rw [List.mem_singleton.mp hm] at l9; exact absurd l9.2.2.2 (Nat.lt_irrefl _)
    (try dsimp only)
    refine hret D9 t8 tr h9 _ (keepBut_hide hg zF.keep) ⟨_, _, _, _, _, _, _, _, ⟨neTab65 z3 z4 hd1' hd2', neTab72 z3 z5 hd1' hd2', neTab65 z2 z4 hd8 hv8, neTab72 z2 z5 hd8 hv8, z4, z5, z3, hd1', hd2', z2, hd8, hv8⟩, none_hide hg (zN _ (.tail _ (.tail _ (.head _)))).2.2 (notIn2 (neTab65 z3 z4 hd1' hd2') (neTab72 z3 z5 hd1' hd2')), none_hide hg (zN _ (.tail _ (.head _))).2.2 (notIn2 (neTab65 z2 z4 hd8 hv8) (neTab72 z2 z5 hd8 hv8))⟩ (none_hide hg z1.2.2 hD) (z1.1.trans (congrArg some ?_))
    rw [← er, ← eq]
end Mine
end
section -- Kdp1
theorem Mine.wTopOff9 : True := by w_top off; trivial
local macro_rules | `(tactic| walk_at "no such line") => `(tactic| fail)
local macro_rules | `(tactic| walk_at "no such line") => `(tactic| fail)
local macro_rules | `(tactic| walk_at "no such line") => `(tactic| fail)
local macro_rules | `(tactic| walk_at "no such line") => `(tactic| fail)
local macro_rules | `(tactic| walk_at "no such line") => `(tactic| fail)
local macro_rules | `(tactic| walk_at "no such line") => `(tactic| fail)
local macro_rules | `(tactic| walk_at "no such line") => `(tactic| fail)
local macro_rules | `(tactic| walk_at "no such line") => `(tactic| fail)
local macro_rules | `(tactic| walk_at "no such line") => `(tactic| fail)
local macro_rules | `(tactic| walk_at "no such line") => `(tactic| fail)
local macro_rules | `(tactic| walk_at "no such line") => `(tactic| fail)
local macro_rules | `(tactic| walk_at "no such line") => `(tactic| fail)
local macro_rules | `(tactic| walk_at "no such line") => `(tactic| fail)
local macro_rules | `(tactic| walk_at "no such line") => `(tactic| fail)
local macro_rules | `(tactic| walk_at "no such line") => `(tactic| fail)
local macro_rules | `(tactic| walk_at "no such line") => `(tactic| fail)
local macro_rules | `(tactic| walk_at "no such line") => `(tactic| fail)
local macro_rules | `(tactic| walk_at "no such line") => `(tactic| fail)
local macro_rules | `(tactic| walk_at "no such line") => `(tactic| fail)
local macro_rules | `(tactic| walk_at "no such line") => `(tactic| fail)
local macro_rules | `(tactic| walk_at "no such line") => `(tactic| fail)
local macro_rules | `(tactic| walk_at "no such line") => `(tactic| fail)
local macro_rules | `(tactic| walk_at "no such line") => `(tactic| fail)
local macro_rules | `(tactic| walk_at "no such line") => `(tactic| fail)
local macro_rules | `(tactic| walk_at "no such line") => `(tactic| fail)
local macro_rules | `(tactic| walk_at "no such line") => `(tactic| fail)
local macro_rules | `(tactic| walk_at "no such line") => `(tactic| fail)
local macro_rules | `(tactic| walk_at "no such line") => `(tactic| fail)
local macro_rules | `(tactic| walk_at "no such line") => `(tactic| fail)
local macro_rules | `(tactic| walk_at "no such line") => `(tactic| fail)
local macro_rules | `(tactic| walk_at "no such line") => `(tactic| fail)
local macro_rules | `(tactic| walk_at "no such line") => `(tactic| fail)
local macro_rules | `(tactic| walk_at "no such line") => `(tactic| fail)
local macro_rules | `(tactic| walk_at "no such line") => `(tactic| fail)
local macro_rules | `(tactic| walk_at "no such line") => `(tactic| fail)
local macro_rules | `(tactic| walk_at "no such line") => `(tactic| fail)
local macro_rules | `(tactic| walk_at "no such line") => `(tactic| fail)
local macro_rules | `(tactic| walk_at "no such line") => `(tactic| fail)
local macro_rules | `(tactic| walk_at "no such line") => `(tactic| fail)
local macro_rules | `(tactic| walk_at "no such line") => `(tactic| fail)
local macro_rules | `(tactic| walk_at "no such line") => `(tactic| fail)
local macro_rules | `(tactic| walk_at "no such line") => `(tactic| fail)
local macro_rules | `(tactic| walk_at "no such line") => `(tactic| fail)
local macro_rules | `(tactic| walk_at "no such line") => `(tactic| fail)
local macro_rules | `(tactic| walk_at "no such line") => `(tactic| fail)
local macro_rules | `(tactic| walk_at "no such line") => `(tactic| fail)
local macro_rules | `(tactic| walk_at "no such line") => `(tactic| fail)
local macro_rules | `(tactic| walk_at "no such line") => `(tactic| fail)
local macro_rules | `(tactic| walk_at "no such line") => `(tactic| fail)
local macro_rules | `(tactic| walk_at "no such line") => `(tactic| fail)
local macro_rules | `(tactic| walk_at "eval BinOp") => `(tactic| (k_here; k_dflt (refine' Mine.pev_ok ?F ?e ?c ?k ?_; (case F => k_asm); (case e => exact rfl); (case c => (repeat (first | exact trivial | refine And.intro (by mul_fits) ?_))); (case k => rfl); k_whole)))
local macro_rules | `(tactic| walk_at "spliced") => `(tactic| (k_here; k_dflt (refine' Mine.args_ok ?F ?k ?e ?c ?_; (case F => k_asm); (case k => rfl); (case e => exact rfl); (case c => (repeat (first | exact trivial | refine And.intro (by mul_fits) ?_))); k_whole)))
local macro_rules | `(tactic| walk_at "isTrue Compare") => `(tactic| (k_here; k_dflt (refine' Mine.cmp_ok ?F ?e ?c ?k ?n ?_; (case F => k_asm); (case e => exact rfl); (case c => (repeat (first | exact trivial | refine And.intro (by mul_fits) ?_))); (case k => rfl); (case n => rfl); k_whole)))
local macro_rules | `(tactic| walk_at "exec Assign") => `(tactic| (k_here; k_dflt (refine' Mine.assign_ok0 ?F ?N ?e ?c ?k ?x ?s ?_; (case F => k_asm); (case N => k_asm); (case e => exact rfl); (case c => (repeat (first | exact trivial | refine And.intro (by mul_fits) ?_))); (case k => rfl); (case x => rfl); (case s => rfl); k_whole; intro h' F' N'; (try k_sweep))))
local macro_rules | `(tactic| walk_at "exec Return some") => `(tactic| (k_here; k_dflt (refine' Mine.ret_ok ?F ?e ?c ?k ?_; (case F => k_asm); (case e => exact rfl); (case c => (repeat (first | exact trivial | refine And.intro (by mul_fits) ?_))); (case k => rfl); k_whole)))
local macro_rules | `(tactic| k_ne) => `(tactic| (refine PySem.W.neN ?_; (try dsimp only); first
  | with_reducible assumption
  | ((with_reducible refine Nat.ne_of_lt ?_); (repeat with_reducible refine Mine.nzLT ?_); (first | with_reducible assumption | exact Mine.nzA1 (by with_reducible assumption) | exact Mine.nzA2 (by with_reducible assumption) | exact Mine.nzZ2 (by with_reducible assumption) | exact Mine.nzA3 (by with_reducible assumption) | exact Mine.nzZ3 (by with_reducible assumption) | exact Mine.nzA4 (by with_reducible assumption) | exact Mine.nzZ4 (by with_reducible assumption) | exact Mine.nzA5 (by with_reducible assumption) | exact Mine.nzZ5 (by with_reducible assumption) | exact Mine.nzA6 (by with_reducible assumption) | exact Mine.nzZ6 (by with_reducible assumption) | exact Mine.nzA7 (by with_reducible assumption) | exact Mine.nzZ7 (by with_reducible assumption) | exact Mine.nzA8 (by with_reducible assumption) | exact Mine.nzZ8 (by with_reducible assumption) | exact Mine.nzA9 (by with_reducible assumption) | exact Mine.nzZ9 (by with_reducible assumption) | exact Mine.nzA10 (by with_reducible assumption) | exact Mine.nzZ10 (by with_reducible assumption) | exact Mine.nzA11 (by with_reducible assumption) | exact Mine.nzZ11 (by with_reducible assumption) | exact Mine.nzA12 (by with_reducible assumption) | exact Mine.nzZ12 (by with_reducible assumption) | exact Mine.nzA13 (by with_reducible assumption) | exact Mine.nzZ13 (by with_reducible assumption) | exact Mine.nzA14 (by with_reducible assumption) | exact Mine.nzZ14 (by with_reducible assumption) | exact Mine.nzA15 (by with_reducible assumption) | exact Mine.nzZ15 (by with_reducible assumption) | exact Mine.nzA16 (by with_reducible assumption) | exact Mine.nzZ16 (by with_reducible assumption)))
  | ((with_reducible refine Nat.ne_of_gt ?_); (repeat with_reducible refine Mine.nzLT ?_); (first | with_reducible assumption | exact Mine.nzA1 (by with_reducible assumption) | exact Mine.nzA2 (by with_reducible assumption) | exact Mine.nzZ2 (by with_reducible assumption) | exact Mine.nzA3 (by with_reducible assumption) | exact Mine.nzZ3 (by with_reducible assumption) | exact Mine.nzA4 (by with_reducible assumption) | exact Mine.nzZ4 (by with_reducible assumption) | exact Mine.nzA5 (by with_reducible assumption) | exact Mine.nzZ5 (by with_reducible assumption) | exact Mine.nzA6 (by with_reducible assumption) | exact Mine.nzZ6 (by with_reducible assumption) | exact Mine.nzA7 (by with_reducible assumption) | exact Mine.nzZ7 (by with_reducible assumption) | exact Mine.nzA8 (by with_reducible assumption) | exact Mine.nzZ8 (by with_reducible assumption) | exact Mine.nzA9 (by with_reducible assumption) | exact Mine.nzZ9 (by with_reducible assumption) | exact Mine.nzA10 (by with_reducible assumption) | exact Mine.nzZ10 (by with_reducible assumption) | exact Mine.nzA11 (by with_reducible assumption) | exact Mine.nzZ11 (by with_reducible assumption) | exact Mine.nzA12 (by with_reducible assumption) | exact Mine.nzZ12 (by with_reducible assumption) | exact Mine.nzA13 (by with_reducible assumption) | exact Mine.nzZ13 (by with_reducible assumption) | exact Mine.nzA14 (by with_reducible assumption) | exact Mine.nzZ14 (by with_reducible assumption) | exact Mine.nzA15 (by with_reducible assumption) | exact Mine.nzZ15 (by with_reducible assumption) | exact Mine.nzA16 (by with_reducible assumption) | exact Mine.nzZ16 (by with_reducible assumption)))
  | ((repeat with_reducible refine Mine.nzSS ?_); (first | with_reducible refine Mine.nzS0 ?_ | with_reducible refine Mine.nz0S ?_); (repeat (first | with_reducible exact Nat.le_refl _ | with_reducible refine Mine.nzLS ?_)); done)
  | (first | with_reducible assumption | exact Mine.nzA1 (by with_reducible assumption) | exact Mine.nzA2 (by with_reducible assumption) | exact Mine.nzZ2 (by with_reducible assumption) | exact Mine.nzA3 (by with_reducible assumption) | exact Mine.nzZ3 (by with_reducible assumption) | exact Mine.nzA4 (by with_reducible assumption) | exact Mine.nzZ4 (by with_reducible assumption) | exact Mine.nzA5 (by with_reducible assumption) | exact Mine.nzZ5 (by with_reducible assumption) | exact Mine.nzA6 (by with_reducible assumption) | exact Mine.nzZ6 (by with_reducible assumption) | exact Mine.nzA7 (by with_reducible assumption) | exact Mine.nzZ7 (by with_reducible assumption) | exact Mine.nzA8 (by with_reducible assumption) | exact Mine.nzZ8 (by with_reducible assumption) | exact Mine.nzA9 (by with_reducible assumption) | exact Mine.nzZ9 (by with_reducible assumption) | exact Mine.nzA10 (by with_reducible assumption) | exact Mine.nzZ10 (by with_reducible assumption) | exact Mine.nzA11 (by with_reducible assumption) | exact Mine.nzZ11 (by with_reducible assumption) | exact Mine.nzA12 (by with_reducible assumption) | exact Mine.nzZ12 (by with_reducible assumption) | exact Mine.nzA13 (by with_reducible assumption) | exact Mine.nzZ13 (by with_reducible assumption) | exact Mine.nzA14 (by with_reducible assumption) | exact Mine.nzZ14 (by with_reducible assumption) | exact Mine.nzA15 (by with_reducible assumption) | exact Mine.nzZ15 (by with_reducible assumption) | exact Mine.nzA16 (by with_reducible assumption) | exact Mine.nzZ16 (by with_reducible assumption))
  | (apply Ne.symm; (first | with_reducible assumption | exact Mine.nzA1 (by with_reducible assumption) | exact Mine.nzA2 (by with_reducible assumption) | exact Mine.nzZ2 (by with_reducible assumption) | exact Mine.nzA3 (by with_reducible assumption) | exact Mine.nzZ3 (by with_reducible assumption) | exact Mine.nzA4 (by with_reducible assumption) | exact Mine.nzZ4 (by with_reducible assumption) | exact Mine.nzA5 (by with_reducible assumption) | exact Mine.nzZ5 (by with_reducible assumption) | exact Mine.nzA6 (by with_reducible assumption) | exact Mine.nzZ6 (by with_reducible assumption) | exact Mine.nzA7 (by with_reducible assumption) | exact Mine.nzZ7 (by with_reducible assumption) | exact Mine.nzA8 (by with_reducible assumption) | exact Mine.nzZ8 (by with_reducible assumption) | exact Mine.nzA9 (by with_reducible assumption) | exact Mine.nzZ9 (by with_reducible assumption) | exact Mine.nzA10 (by with_reducible assumption) | exact Mine.nzZ10 (by with_reducible assumption) | exact Mine.nzA11 (by with_reducible assumption) | exact Mine.nzZ11 (by with_reducible assumption) | exact Mine.nzA12 (by with_reducible assumption) | exact Mine.nzZ12 (by with_reducible assumption) | exact Mine.nzA13 (by with_reducible assumption) | exact Mine.nzZ13 (by with_reducible assumption) | exact Mine.nzA14 (by with_reducible assumption) | exact Mine.nzZ14 (by with_reducible assumption) | exact Mine.nzA15 (by with_reducible assumption) | exact Mine.nzZ15 (by with_reducible assumption) | exact Mine.nzA16 (by with_reducible assumption) | exact Mine.nzZ16 (by with_reducible assumption)))
  | omega))
local macro_rules | `(tactic| k_lt $h:ident) => `(tactic| (replace $h := Mine.allLt1 $h; dsimp only [Mine.AllLt1, Mine.AllLtC] at $h:ident))
open PySem PySem.W PyProof.Rows
namespace Mine
set_option Elab.async false
local macro_rules | `(tactic| walk_at "call ref") => `(tactic| (k_here; (with_reducible show wpAny _ _ (call (Value.ref 70) _) _ _ _); k_dflt (refine' i2d_T1 _ _ _ _ _ _ _ _ _ _ _ _ _ _ _ _ _ _ _ _ _ _ _ _ _ _ _ _ _ _ _ ?k1 ?k2 ?k3 ?k4 ?kc1 ?kc2 ?kc3 ?k5 ?k6 ?k7 ?k8 ?k9 ?k10 ?_; (case k1 => k_asm); (case k2 => k_asm); (case k3 => k_asm); (case k4 => k_asm); (case kc1 => assumption); (case kc2 => assumption); (case kc3 => assumption); (case k5 => k_asm); (case k6 => exact rfl); (case k7 => k_asm); (case k8 => assumption); (case k9 => ktr_room); (case k10 => ktr_units); k_whole); intro d' its' e' h' tk' hD' F' N'; (try dsimp only); (try k_fold)))
local macro_rules | `(tactic| walk_at "exec For Name Call cons nil") => `(tactic| (k_here; (rename Fr _ _ _ _ => lF'); (with_unfolding_all refine' For_invVF lF' ?k1 ?k2 ?_; (case k1 => exact rfl); (case k2 => exact rfl); k_whole)))
local macro_rules | `(tactic| walk_at "call type:reversed") => `(tactic| (k_here; k_dflt (refine' krv_reversed ?F ?N ?l ?_; (case F => k_asm); (case N => k_asm); (case l => is_list); k_whole); intro D' h' F' N' l1; (try k_lt l1)))
local macro_rules | `(tactic| walk_at "pyIter ref") => `(tactic| fail)
local macro_rules | `(tactic| walk_at "call builtin:list.append") => `(tactic| (k_here; (try dsimp only); (simp only [List.cons_append, List.nil_append]); (with_reducible show wpAny _ _ (call (Value.builtin _) [Value.ref _, _]) _ _ _); k_dflt (refine' append_K ?k1 ?k2 ?k3 ?_ ?z; (case k1 => k_asm); (case k2 => k_asm); (case k3 => k_upd); (case z => assumption); k_whole); intro h' F' N'; (try k_sweep)))
local macro_rules | `(tactic| walk_at "call builtin:list.reverse") => `(tactic| (k_here; (with_reducible show wpAny _ _ (call (Value.builtin _) [Value.ref _]) _ _ _); k_dflt (refine' kl_reverse ?F ?N ?e ?U ?z ?_; (case F => k_asm); (case N => k_asm); (case e => exact rfl); (case U => k_upd); (case z => assumption); k_whole); intro h' F' N'; (try k_sweep)))
local macro_rules | `(tactic| walk_at "call ref") => `(tactic| (k_here; (with_reducible show wpAny _ _ (call (Value.ref 56) _) _ _ _); k_dflt (refine' div2_ctr _ _ _ _ _ _ _ _ _ _ _ _ _ _ _ _ _ _ _ _ _ _ _ _ _ _ _ _ ?k1 ?k2 ?k3 ?k4 ?k5 ?k6 ?k7 ?k8 ?k9 ?_; (case k1 => k_asm); (case k2 => k_asm); (case k3 => k_asm); (case k4 => k_asm); (case k5 => k_asm); (case k6 => first | exact rfl | assumption); (case k7 => assumption); (case k8 => ktr_room); (case k9 => ktr_units); k_whole); intro d' ta' tb' h' tk' F' N' hne'; (try simp only [AllNe, and_true] at hne'); (try dsimp only); (try k_fold)))
set_option maxRecDepth 100000 in
set_option maxHeartbeats 8000000 in
set_option pp.deepTerms false in
set_option pp.maxSteps 6000 in
theorem dp_T1 (w : World) (c1 : Addr) (oc1 : Obj) (vs1 : Array Value) (tq1 : Tok) (c2 : Addr) (oc2 : Obj) (vs2 : Array Value) (tq2 : Tok) (x y : Int) (k : Nat) (t1 t2 : Tok) :
    CtrT w 24 240 84 [(65, tab65 c1), (72, tab72 c2)] [.int x t1, .int y t2] (fun h => TFa h c1 oc1 vs1 tq1 c2 oc2 vs2 tq2 ∧ 0 ≤ x ∧ x < 128 ∧ 0 < y ∧ y < 128 ∧
      (0 ≤ x ∧ x < 128 ∧ 0 < (Builtin.Int.intBits y : Int) ∧ (Builtin.Int.intBits y : Int) < 8 ∧ (↑(Builtin.Int.intBits x) + (Builtin.Int.intBits y : Int) - 1).fdiv (Builtin.Int.intBits y) = (k : Int) ∧ k ≤ 7 ∧ x < 2 ^ ((Builtin.Int.intBits y : Int).toNat * k) ∧ (x = 0 → k = 0) ∧ (x ≠ 0 → 0 < k)))
      (fun _ s Q => ∀ (d : Addr) (t1 t2 : Tok) (hz : Heap) (tz : Nat), Keep s.heap hz → s.heap.get? d = none → hz.get? d = some (tup2I (x / y) (x % y) t1 t2) → Q (.ref d) { s with heap := hz, toks := tz }) := by
  dsimp only [CtrT, P0, LS]
  k_fill
  intro mean mg mb dp un gd cn cs a ccd cl outer A₀ base h₀ L m s Q E B F X N T hk C1 C2 hpre hdp hun hret
  obtain ⟨hTF, hp1, hp2, hp3, hp4, hpI⟩ := hpre
  obtain ⟨tn1, tn2, tn3, tn4, tg1, tg2, to1, td1, tv1, to2, td2, tv2⟩ := hTF
  refine wpAny_call ?_
  k_dflt (refine' enterT ?k1 ?k2 ?k3 ?k4 ?k5 ?kA ?kF ?kK ?k6 ?k7 ?k8 ?k9 ?kB ?kC1 ?kC2 ?_ ?c2 ?c3 ?c4 ?c5; (case kA => exact rfl); (case kF => exact rfl); (case kK => assumption); (case k1 => k_asm); (case k2 => k_asm); (case k3 => k_asm); (case k4 => k_asm); (case k5 => k_asm); (case k6 => k_is); (case k7 => k_is); (case k8 => ktr_room); (case k9 => exact BindsTo.of_eq rfl); (case c5 => decide); (case kB => exact locs rfl); (case kC1 => assumption); (case kC2 => assumption); (case c2 => exact rfl); (case c3 => exact rfl); (case c4 => exact rfl); k_whole)
  have hc1 : (hideAll s.heap (List.map (·.1) [(65, tab65 c1), (72, tab72 c2)])).get? c1 = some oc1 := hideAll_get _ to1 (by intro hm; rcases List.mem_cons.mp hm with e | hm; exact tn1 e; exact tn2 (List.mem_singleton.mp hm))
  have hc2 : (hideAll s.heap (List.map (·.1) [(65, tab65 c1), (72, tab72 c2)])).get? c2 = some oc2 := hideAll_get _ to2 (by intro hm; rcases List.mem_cons.mp hm with e | hm; exact tn3 e; exact tn4 (List.mem_singleton.mp hm))
  generalize hg : hideAll s.heap (List.map (·.1) [(65, tab65 c1), (72, tab72 c2)]) = g' at *
  clear C1 C2 N F B X T
  intro L' h' F' N' B' X' T' C1 C2 l1
  (try k_lt l1)
  (try dsimp only)
  (try k_lift B')
  (try k_fold)
  w_on
  k_steps
  (with_reducible rename Fr _ _ _ _ => kF)
  (with_reducible rename News _ _ _ _ => kN)
  rename_i d' its' e' hq1 tkq hD' hq2 hq3 l' hq4 lq1 hq5 F91 N91 D' hq6 lq2
  refine nameFr kF (fun M0 hM0 kF => ?_)
  have nD := kN _ (.head _)
  have nd := kN _ (.tail _ (.tail _ (.head _)))
  have nL : L' < hq6.objs.size := kF.ns.lt
  have hnb : (Builtin.Int.intBits y : Int).toNat = Builtin.Int.intBits y := Int.toNat_natCast _
  refine wpAny_pyIter_revIter (l := d') (i := (its'.toList.length : Int) - 1) ⟨_, nD.1, rfl, rfl⟩ ?_
  refine loopLit [(d', W.listOf its' e')] (fun i m₁ ns => ∃ (r : Int) (qs : Array Value) (e : Nat) (ql : List Int), (∀ z, z ≠ Str.ofString "q_digit" → z ≠ Str.ofString "a_digit" → z ≠ Str.ofString "r" → m₁ z = M0 z) ∧ (∃ tr, m₁ (Str.ofString "r") = some (Value.int r tr)) ∧
      ns = [(l', W.listOf qs e), (d', W.listOf its' e'), (65, tab65 c1), (72, tab72 c2)] ∧ IntsAre qs.toList ql ∧ LInv x y (Builtin.Int.intBits y) k i r ql)
    (Walks.listRev (A := _) rfl D' d' (Nat.ne_of_lt (by omega)) its') ?_ ?_ ?_ ?_ ?_ kF (fun p hp => kN p (.tail _ hp)) ?_ ?_ ?_ ?_
  · rintro i h ⟨_, ⟨o, ho, _⟩, _⟩; exact ⟨o, ho⟩
  · intro b hb
    have hb' : b = D' ∨ b = d' := by simpa using hb
    rcases hb' with rfl | rfl
    · exact .inl rfl
    · exact .inr (.inl ⟨_, List.mem_singleton.mpr rfl⟩)
  · intro hm
    have hb' : L' = D' ∨ L' = d' := by
      rcases List.mem_cons.mp hm with e | hm
      · exact .inl e
      · exact .inr (List.mem_singleton.mp hm)
    rcases hb' with e | e
    · exact nD.2.1 e.symm
    · exact nd.2.1 e.symm
  · exact nD.2.2
  · exact ⟨Nat.zero_le _, ⟨_, nD.1, rfl, by simp; rfl⟩, ⟨_, nd.1, rfl, _, rfl⟩⟩
  · exact ⟨0, #[], 0, [], fun _ _ _ _ => rfl, ⟨_, by rw [← hM0]; rfl⟩, rfl, .nil, LInv.start hp1 (by rw [← hnb]; exact hpI.2.2.2.2.2.2.1) hp3⟩
  · rintro i m₁ ns ⟨r, qs, e, ql, -, -, rfl, -, -⟩
    refine ⟨fun p hp => by rw [List.mem_singleton.mp hp]; exact .tail _ (.head _), fun p hp => ?_⟩
    simp only [List.mem_cons, List.not_mem_nil, or_false] at hp
    rcases hp with rfl | rfl | rfl | rfl <;> dsimp only <;> exact Nat.ne_of_lt (by omega)
  · intro i v m₁ news₁ hh tkk it hi hP hJ F N
    obtain ⟨r, qs, e, ql, hm, ⟨tr, hmr⟩, rfl, hI, hLI⟩ := hJ
    have em := map3 _ _ _ _ _ hm
    rw [hmr] at em
    generalize m₁ (Str.ofString "q_digit") = vq at em
    generalize m₁ (Str.ofString "a_digit") = va at em
    subst em
    clear hm hmr
    obtain ⟨hsz, hdig⟩ := hD'
    rw [hsz] at hi
    obtain ⟨tv, hv⟩ := hdig (k - 1 - i) (by omega)
    rw [hsz, hv] at hP
    obtain rfl := Option.some.inj hP
    rw [hnb] at hv F
    have hd0 : 0 ≤ x / 2 ^ (Builtin.Int.intBits y * (k - 1 - i)) % 2 ^ Builtin.Int.intBits y := Int.emod_nonneg _ (Int.ne_of_gt (Int.pow_pos (by decide)))
    have hd1 : x / 2 ^ (Builtin.Int.intBits y * (k - 1 - i)) % 2 ^ Builtin.Int.intBits y < 2 ^ Builtin.Int.intBits y := Int.emod_lt_of_pos _ (Int.pow_pos (by decide))
    have hB1 : (2 : Int) ^ Builtin.Int.intBits y ≤ 128 := by
      have h4 : (2 : Nat) ^ (Builtin.Int.intBits y) ≤ 2 ^ 7 := Nat.pow_le_pow_right (by decide) (by have := hpI.2.2.2.1; omega)
      have h5 : (((2 : Nat) ^ (Builtin.Int.intBits y) : Nat) : Int) ≤ ((2 ^ 7 : Nat) : Int) := Int.ofNat_le.mpr h4
      simpa using h5
    have hr0 := hLI.r0
    have hr1 := hLI.r1
    have hqs : qs.size ≤ sizeLine := by
      have e1 := hI.length
      have e2 := hLI.len
      rw [sizeLine_eq]
      simp only [Array.length_toList] at e1
      omega
    have hT0 : 0 ≤ r * 2 ^ (Builtin.Int.intBits y : Int).toNat := by rw [hnb]; exact Int.mul_nonneg hr0 (Int.le_of_lt (Int.pow_pos (by decide)))
    have hT1 : r * 2 ^ (Builtin.Int.intBits y : Int).toNat ≤ 128 * 128 := by
      rw [hnb]
      have e1 : r * 2 ^ Builtin.Int.intBits y ≤ r * 128 := Int.mul_le_mul_of_nonneg_left hB1 hr0
      omega
    generalize hdg : x / 2 ^ (Builtin.Int.intBits y * (k - 1 - i)) % 2 ^ Builtin.Int.intBits y = dg at *
    have hcall : 0 ≤ r * 2 ^ (Builtin.Int.intBits y : Int).toNat + dg ∧ r * 2 ^ (Builtin.Int.intBits y : Int).toNat + dg < 1000000 ∧ 0 < y ∧ y < 1000 ∧ 0 < (Builtin.Int.intBits y : Int) ∧ (Builtin.Int.intBits y : Int) < 100 := ⟨by omega, by omega, hp3, by omega, hpI.2.2.1, by have := hpI.2.2.2.1; omega⟩
    subst hM0
    clear kF kN F91 N91 nD nd nL
    k_steps
    refine ⟨_, _, _, [(l', W.listOf (qs.push _) _), (d', W.listOf its' e'), (65, tab65 c1), (72, tab72 c2)], rfl, (by assumption), cb_drop (by assumption) (by kcj_all), ?_⟩
    have st := LInv.step hp1 hp3 hi hLI
    rw [hdg] at st
    refine ⟨(r * 2 ^ (Builtin.Int.intBits y : Int).toNat + dg).fmod y, _, _, ql ++ [(r * 2 ^ (Builtin.Int.intBits y : Int).toNat + dg).fdiv y], fun z h1 h2 h3 => ?_, ⟨_, if_pos rfl⟩, rfl, ?_, ?_⟩
    · simp only [if_neg h1, if_neg h2, if_neg h3]
    · rw [Array.toList_push]
      exact IntsAre.append hI (.cons _ _ .nil)
    · rw [hnb]; exact st
  · intro m' news' hh tkk hJ F N
    obtain ⟨r, qs, e, ql, hm, ⟨tr, hmr⟩, rfl, hI, hLI⟩ := hJ
    have em := map3 _ _ _ _ _ hm
    rw [hmr] at em
    generalize m' (Str.ofString "q_digit") = vq at em
    generalize m' (Str.ofString "a_digit") = va at em
    subst em
    clear hm hmr
    obtain ⟨hsz, hdig⟩ := hD'
    rw [hsz] at hLI
    subst hM0
    clear kF kN F91 N91 nD nd nL
    have hqs : qs.toList.length ≤ sizeLine := by
      have e1 := hI.length
      have e2 := hLI.len
      rw [sizeLine_eq]
      omega
    (try dsimp only)
    k_steps
    (with_reducible rename Fr _ _ _ _ => jF)
    (with_reducible rename News _ _ _ _ => jN)
    have hLL : Heap.IsList _ l' qs.toList.reverse.toArray := ⟨_, (jN _ (.head _)).1, rfl, _, rfl⟩
    have jn : News g' L' _ [(72, tab72 c2)] := cb_drop jN (by kcj_all)
    have hl72 : l' ≠ 72 := fun e => by rw [e] at lq1; exact absurd lq1.2.2 (Nat.lt_irrefl _)
    k_here
    k_dflt (refine' d2i_T1 w c2 oc2 vs2 tq2 _ qs.toList.reverse ql.reverse _ t1 _ _ _ _ _ _ _ _ _ _ _ _ _ _ _ _ _ _ _ _ _ ?k1 ?k2 ?k3 ?k4 ?k5 ?k6 ?kC1 ?kC2 ?k8 ?k9 ?k10 ?_; (case k1 => k_asm); (case k2 => k_asm); (case k3 => k_asm); (case k4 => exact jn); (case k5 => k_asm); (case k6 => exact rfl); (case kC1 => assumption); (case kC2 => assumption); (case k8 => exact ⟨hl72, tn4, jF.keep _ _ hc2, td2, tv2, hLL, intsRev hI, by rw [List.length_reverse, hLI.len]; exact hpI.2.2.2.2.2.1, hpI.2.2.1, hpI.2.2.2.1, fun q hq => by rw [hnb]; exact hLI.dig q (List.mem_reverse.mp hq)⟩); (case k9 => ktr_room); (case k10 => ktr_units); k_whole)
    intro t8 h8 tz8 kb8
    have F8 := frKeep jF kb8
    have N8 : News g' L' h8 [(65, tab65 c1), (72, tab72 c2)] := cb_drop (newsKeep jN kb8) (by kcj_all)
    clear jF jN jn
    (try dsimp only)
    k_steps
    (with_reducible rename Fr _ _ _ _ => zF)
    (with_reducible rename News _ _ _ _ => zN)
    rename_i D9 h9 l9
    have z1 := zN _ (.head _)
    have z4 := (zN _ (.tail _ (.head _))).1
    have z5 := (zN _ (.tail _ (.tail _ (.head _)))).1
    have er : r = x % y := by have := hLI.rr; simpa using this
    have eq : dval ql.reverse (Builtin.Int.intBits y : Int).toNat 0 ql.reverse.length = x / y := by
      have := hLI.qq
      rw [dval_rev, hnb]
      simpa using this
    have hD : D9 ∉ ([65, 72] : List Addr) := fun hm => by
      rcases List.mem_cons.mp hm with e | hm
      · rw [e] at l9; exact absurd l9.1 (Nat.lt_irrefl _)
      · rw [List.mem_singleton.mp hm] at l9; exact absurd l9.2 (Nat.lt_irrefl _)
    (try dsimp only)
    refine hret D9 t8 tr h9 _ (keep_two hg zF.keep tg1 tg2 z4 z5) (none_hide hg z1.2.2 hD) (z1.1.trans (congrArg some ?_))
    rw [← er, ← eq]
end Mine
end
section -- Kdvm0
open PySem PySem.W PyProof.Rows
namespace Mine
set_option Elab.async false
theorem bits_lt {x : Int} (h0 : 0 ≤ x) : x < 2 ^ Builtin.Int.intBits x := by
  unfold Builtin.Int.intBits
  split
  · rename_i h
    have : x = 0 := by simpa using h
    subst this; decide
  · have h1 := Nat.lt_log2_self (n := x.natAbs)
    have h2 : (x.natAbs : Int) < ((2 ^ (x.natAbs.log2 + 1) : Nat) : Int) := Int.ofNat_lt.mpr h1
    rw [Int.natAbs_of_nonneg h0] at h2
    simpa using h2
theorem bits_zero {x : Int} (h : x ≠ 0) : 0 < Builtin.Int.intBits x := by
  unfold Builtin.Int.intBits
  split
  · rename_i h'; exact absurd (by simpa using h') h
  · omega
theorem digits_k {x y : Int} (h1 : 0 ≤ x) (h2 : x < 128) (h3 : 0 < y) (h4 : y < 128) : ∃ k : Nat, (0 ≤ x ∧ x < 128 ∧ 0 < (Builtin.Int.intBits y : Int) ∧ (Builtin.Int.intBits y : Int) < 8 ∧ (↑(Builtin.Int.intBits x) + (Builtin.Int.intBits y : Int) - 1).fdiv (Builtin.Int.intBits y) = (k : Int) ∧ k ≤ 7 ∧ x < 2 ^ ((Builtin.Int.intBits y : Int).toNat * k) ∧ (x = 0 → k = 0) ∧ (x ≠ 0 → 0 < k)) := by
  have bx := bits_small (k := 7) h1 h2
  have by' := bits_small (k := 7) (Int.le_of_lt h3) h4
  have b0 := bits_zero (Int.ne_of_gt h3)
  have lx := bits_lt h1
  have bx0 : x = 0 → Builtin.Int.intBits x = 0 := by rintro rfl; rfl
  have bx1 : x ≠ 0 → 0 < Builtin.Int.intBits x := bits_zero
  generalize Builtin.Int.intBits x = X at *
  generalize Builtin.Int.intBits y = Y at *
  have hk : (↑X + (Y : Int) - 1).fdiv (Y : Int) = (((X + Y - 1) / Y : Nat) : Int) := by
    rw [Int.fdiv_eq_ediv_of_nonneg _ (by omega)]
    have : (X : Int) + Y - 1 = ((X + Y - 1 : Nat) : Int) := by omega
    rw [this]; exact (Int.natCast_ediv _ _).symm
  have hm := Nat.div_add_mod (X + Y - 1) Y
  have hlt := Nat.mod_lt (X + Y - 1) b0
  refine ⟨(X + Y - 1) / Y, h1, h2, by omega, by omega, hk, ?_, ?_, ?_, ?_⟩
  · have : (X + Y - 1) / Y ≤ X := by
      by_cases hx : X = 0
      · rw [hx, Nat.zero_add, Nat.div_eq_of_lt (by omega)]; omega
      · apply Nat.div_le_of_le_mul
        have : X + Y - 1 ≤ Y * X := by
          obtain ⟨a, rfl⟩ : ∃ a, X = a + 1 := ⟨X - 1, by omega⟩
          obtain ⟨b, rfl⟩ : ∃ b, Y = b + 1 := ⟨Y - 1, by omega⟩
          rw [Nat.mul_add, Nat.add_mul]
          have := Nat.zero_le (b * a)
          omega
        exact this
    omega
  · refine Int.lt_of_lt_of_le lx ?_
    rw [Int.toNat_natCast]
    generalize (X + Y - 1) / Y = q at *
    have hq : X ≤ Y * q := by omega
    have h5 : (2 : Nat) ^ X ≤ 2 ^ (Y * q) := Nat.pow_le_pow_right (by decide) hq
    have h6 : (((2 : Nat) ^ X : Nat) : Int) ≤ (((2 : Nat) ^ (Y * q) : Nat) : Int) := Int.ofNat_le.mpr h5
    simpa using h6
  · intro e
    rw [bx0 e, Nat.zero_add]
    exact Nat.div_eq_of_lt (by omega)
  · intro e
    exact Nat.div_pos (by have := bx1 e; omega) b0
theorem inv_div {a b : Int} (hb : 0 < b) : a / b = -1 - (-1 - a) / b ∧ a % b = b - 1 - (-1 - a) % b := by
  have h1 := Int.mul_ediv_add_emod (-1 - a) b
  have h2 := Int.emod_nonneg (-1 - a) (Int.ne_of_gt hb)
  have h3 := Int.emod_lt_of_pos (-1 - a) hb
  generalize (-1 - a) / b = q at *
  generalize (-1 - a) % b = r at *
  have e : a = (b - 1 - r) + (-1 - q) * b := by
    rw [Int.sub_mul, Int.mul_comm q]; omega
  constructor
  · rw [e, Int.add_mul_ediv_right _ _ (Int.ne_of_gt hb), Int.ediv_eq_zero_of_lt (by omega) (by omega)]; omega
  · rw [e, Int.add_mul_emod_self_right, Int.emod_eq_of_lt (by omega) (by omega)]
end Mine
end
section -- Kim
theorem Mine.wTopOff10 : True := by w_top off; trivial
local macro_rules | `(tactic| k_ne) => `(tactic| (refine PySem.W.neN ?_; (try dsimp only); first
  | with_reducible assumption
  | ((with_reducible refine Nat.ne_of_lt ?_); (repeat with_reducible refine Mine.nzLT ?_); (first | with_reducible assumption | exact Mine.nzA1 (by with_reducible assumption) | exact Mine.nzA2 (by with_reducible assumption) | exact Mine.nzZ2 (by with_reducible assumption) | exact Mine.nzA3 (by with_reducible assumption) | exact Mine.nzZ3 (by with_reducible assumption) | exact Mine.nzA4 (by with_reducible assumption) | exact Mine.nzZ4 (by with_reducible assumption) | exact Mine.nzA5 (by with_reducible assumption) | exact Mine.nzZ5 (by with_reducible assumption) | exact Mine.nzA6 (by with_reducible assumption) | exact Mine.nzZ6 (by with_reducible assumption) | exact Mine.nzA7 (by with_reducible assumption) | exact Mine.nzZ7 (by with_reducible assumption) | exact Mine.nzA8 (by with_reducible assumption) | exact Mine.nzZ8 (by with_reducible assumption) | exact Mine.nzA9 (by with_reducible assumption) | exact Mine.nzZ9 (by with_reducible assumption) | exact Mine.nzA10 (by with_reducible assumption) | exact Mine.nzZ10 (by with_reducible assumption) | exact Mine.nzA11 (by with_reducible assumption) | exact Mine.nzZ11 (by with_reducible assumption) | exact Mine.nzA12 (by with_reducible assumption) | exact Mine.nzZ12 (by with_reducible assumption) | exact Mine.nzA13 (by with_reducible assumption) | exact Mine.nzZ13 (by with_reducible assumption) | exact Mine.nzA14 (by with_reducible assumption) | exact Mine.nzZ14 (by with_reducible assumption) | exact Mine.nzA15 (by with_reducible assumption) | exact Mine.nzZ15 (by with_reducible assumption) | exact Mine.nzA16 (by with_reducible assumption) | exact Mine.nzZ16 (by with_reducible assumption)))
  | ((with_reducible refine Nat.ne_of_gt ?_); (repeat with_reducible refine Mine.nzLT ?_); (first | with_reducible assumption | exact Mine.nzA1 (by with_reducible assumption) | exact Mine.nzA2 (by with_reducible assumption) | exact Mine.nzZ2 (by with_reducible assumption) | exact Mine.nzA3 (by with_reducible assumption) | exact Mine.nzZ3 (by with_reducible assumption) | exact Mine.nzA4 (by with_reducible assumption) | exact Mine.nzZ4 (by with_reducible assumption) | exact Mine.nzA5 (by with_reducible assumption) | exact Mine.nzZ5 (by with_reducible assumption) | exact Mine.nzA6 (by with_reducible assumption) | exact Mine.nzZ6 (by with_reducible assumption) | exact Mine.nzA7 (by with_reducible assumption) | exact Mine.nzZ7 (by with_reducible assumption) | exact Mine.nzA8 (by with_reducible assumption) | exact Mine.nzZ8 (by with_reducible assumption) | exact Mine.nzA9 (by with_reducible assumption) | exact Mine.nzZ9 (by with_reducible assumption) | exact Mine.nzA10 (by with_reducible assumption) | exact Mine.nzZ10 (by with_reducible assumption) | exact Mine.nzA11 (by with_reducible assumption) | exact Mine.nzZ11 (by with_reducible assumption) | exact Mine.nzA12 (by with_reducible assumption) | exact Mine.nzZ12 (by with_reducible assumption) | exact Mine.nzA13 (by with_reducible assumption) | exact Mine.nzZ13 (by with_reducible assumption) | exact Mine.nzA14 (by with_reducible assumption) | exact Mine.nzZ14 (by with_reducible assumption) | exact Mine.nzA15 (by with_reducible assumption) | exact Mine.nzZ15 (by with_reducible assumption) | exact Mine.nzA16 (by with_reducible assumption) | exact Mine.nzZ16 (by with_reducible assumption)))
  | ((repeat with_reducible refine Mine.nzSS ?_); (first | with_reducible refine Mine.nzS0 ?_ | with_reducible refine Mine.nz0S ?_); (repeat (first | with_reducible exact Nat.le_refl _ | with_reducible refine Mine.nzLS ?_)); done)
  | (first | with_reducible assumption | exact Mine.nzA1 (by with_reducible assumption) | exact Mine.nzA2 (by with_reducible assumption) | exact Mine.nzZ2 (by with_reducible assumption) | exact Mine.nzA3 (by with_reducible assumption) | exact Mine.nzZ3 (by with_reducible assumption) | exact Mine.nzA4 (by with_reducible assumption) | exact Mine.nzZ4 (by with_reducible assumption) | exact Mine.nzA5 (by with_reducible assumption) | exact Mine.nzZ5 (by with_reducible assumption) | exact Mine.nzA6 (by with_reducible assumption) | exact Mine.nzZ6 (by with_reducible assumption) | exact Mine.nzA7 (by with_reducible assumption) | exact Mine.nzZ7 (by with_reducible assumption) | exact Mine.nzA8 (by with_reducible assumption) | exact Mine.nzZ8 (by with_reducible assumption) | exact Mine.nzA9 (by with_reducible assumption) | exact Mine.nzZ9 (by with_reducible assumption) | exact Mine.nzA10 (by with_reducible assumption) | exact Mine.nzZ10 (by with_reducible assumption) | exact Mine.nzA11 (by with_reducible assumption) | exact Mine.nzZ11 (by with_reducible assumption) | exact Mine.nzA12 (by with_reducible assumption) | exact Mine.nzZ12 (by with_reducible assumption) | exact Mine.nzA13 (by with_reducible assumption) | exact Mine.nzZ13 (by with_reducible assumption) | exact Mine.nzA14 (by with_reducible assumption) | exact Mine.nzZ14 (by with_reducible assumption) | exact Mine.nzA15 (by with_reducible assumption) | exact Mine.nzZ15 (by with_reducible assumption) | exact Mine.nzA16 (by with_reducible assumption) | exact Mine.nzZ16 (by with_reducible assumption))
  | (apply Ne.symm; (first | with_reducible assumption | exact Mine.nzA1 (by with_reducible assumption) | exact Mine.nzA2 (by with_reducible assumption) | exact Mine.nzZ2 (by with_reducible assumption) | exact Mine.nzA3 (by with_reducible assumption) | exact Mine.nzZ3 (by with_reducible assumption) | exact Mine.nzA4 (by with_reducible assumption) | exact Mine.nzZ4 (by with_reducible assumption) | exact Mine.nzA5 (by with_reducible assumption) | exact Mine.nzZ5 (by with_reducible assumption) | exact Mine.nzA6 (by with_reducible assumption) | exact Mine.nzZ6 (by with_reducible assumption) | exact Mine.nzA7 (by with_reducible assumption) | exact Mine.nzZ7 (by with_reducible assumption) | exact Mine.nzA8 (by with_reducible assumption) | exact Mine.nzZ8 (by with_reducible assumption) | exact Mine.nzA9 (by with_reducible assumption) | exact Mine.nzZ9 (by with_reducible assumption) | exact Mine.nzA10 (by with_reducible assumption) | exact Mine.nzZ10 (by with_reducible assumption) | exact Mine.nzA11 (by with_reducible assumption) | exact Mine.nzZ11 (by with_reducible assumption) | exact Mine.nzA12 (by with_reducible assumption) | exact Mine.nzZ12 (by with_reducible assumption) | exact Mine.nzA13 (by with_reducible assumption) | exact Mine.nzZ13 (by with_reducible assumption) | exact Mine.nzA14 (by with_reducible assumption) | exact Mine.nzZ14 (by with_reducible assumption) | exact Mine.nzA15 (by with_reducible assumption) | exact Mine.nzZ15 (by with_reducible assumption) | exact Mine.nzA16 (by with_reducible assumption) | exact Mine.nzZ16 (by with_reducible assumption)))
  | omega))
local macro_rules | `(tactic| k_lt $h:ident) => `(tactic| (replace $h := Mine.allLt1 $h; dsimp only [Mine.AllLt1, Mine.AllLtC] at $h:ident))
open PySem PySem.W PyProof.Rows
namespace Mine
set_option Elab.async false
/-- what a division hands back, the tables empty before -/
abbrev Ret0 (P : Int → Int → Prop) (s : Shared) (Q : Value → Shared → Prop) : Prop :=
  ∀ (q r : Int) (d : Addr) (t1 t2 : Tok) (hz : Heap) (tz : Nat), P q r → KeepBut [65, 72] s.heap hz → TF0 s.heap hz → s.heap.get? d = none → hz.get? d = some (tup2I q r t1 t2) → Q (.ref d) { s with heap := hz, toks := tz }
abbrev Ret1 (P : Int → Int → Prop) (s : Shared) (Q : Value → Shared → Prop) : Prop :=
  ∀ (q r : Int) (d : Addr) (t1 t2 : Tok) (hz : Heap) (tz : Nat), P q r → Keep s.heap hz → s.heap.get? d = none → hz.get? d = some (tup2I q r t1 t2) → Q (.ref d) { s with heap := hz, toks := tz }
theorem keepBut_trans {as : List Addr} {h h' h'' : Heap} (k : KeepBut as h h') (k' : KeepBut as h' h'') : KeepBut as h h'' := fun b o hb e => k' b o hb (k b o hb e)
theorem none_keep {h h' : Heap} {d : Addr} (k : Keep h h') (hn : h'.get? d = none) : h.get? d = none := by
  cases q : h.get? d with
  | none => rfl
  | some o => rw [k _ _ q] at hn; cases hn
theorem TF0.keep {h h' h'' : Heap} (k : Keep h h') (t : TF0 h' h'') : TF0 h h'' := by
  obtain ⟨c1, oc1, vs1, tq1, c2, oc2, vs2, tq2, t, n1, n2⟩ := t
  exact ⟨c1, oc1, vs1, tq1, c2, oc2, vs2, tq2, t, none_keep k n1, none_keep k n2⟩
set_option maxRecDepth 100000 in
set_option maxHeartbeats 8000000 in
set_option pp.deepTerms false in
set_option pp.maxSteps 6000 in
theorem imp_T0 (w : World) (x y : Int) (t1 t2 : Tok) :
    CtrT w 28 280 91 [(65, tabObj #[]), (72, tabObj #[])] [.int x t1, .int y t2] (fun _ => 0 ≤ x ∧ x < 128 ∧ 0 < y ∧ y < 128) (fun _ => Ret0 fun q r => q = x / y ∧ r = x % y) := by
  dsimp only [CtrT, P0, LS, Ret0]
  k_fill
  intro mean mg mb dp un gd cn cs a ccd cl outer A₀ base h₀ L m s Q E B F X N T hk C1 C2 hpre hdp hun hret
  obtain ⟨hp1, hp2, hp3, hp4⟩ := hpre
  obtain ⟨k, hk1⟩ := digits_k hp1 hp2 hp3 hp4
  have b1 := (N _ (.head _)).1
  have b2 := (N _ (.tail _ (.head _))).1
  refine wpAny_call ?_
  k_dflt (refine' enterT ?k1 ?k2 ?k3 ?k4 ?k5 ?kA ?kF ?kK ?k6 ?k7 ?k8 ?k9 ?kB ?kC1 ?kC2 ?_ ?c2 ?c3 ?c4 ?c5; (case kA => exact rfl); (case kF => exact rfl); (case kK => assumption); (case k1 => k_asm); (case k2 => k_asm); (case k3 => k_asm); (case k4 => k_asm); (case k5 => k_asm); (case k6 => k_is); (case k7 => k_is); (case k8 => ktr_room); (case k9 => exact BindsTo.of_eq rfl); (case c5 => decide); (case kB => exact locs rfl); (case kC1 => assumption); (case kC2 => assumption); (case c2 => exact rfl); (case c3 => exact rfl); (case c4 => exact rfl); k_whole)
  generalize hg : hideAll s.heap (List.map (·.1) [(65, tabObj #[]), (72, tabObj #[])]) = g'
  clear C1 C2 N F B X T
  intro L' h' F' N' B' X' T' C1 C2 l1
  (try k_lt l1)
  (try dsimp only)
  (try k_lift B')
  (try k_fold)
  w_on
  k_steps
  all_goals (try (exfalso; omega))
  k_here
  k_dflt (refine' dp_T0 w x y k _ _ _ _ _ _ _ _ _ _ _ _ _ _ _ _ _ _ _ _ _ _ ?k1 ?k2 ?k3 ?k4 ?k5 ?k6 ?kC1 ?kC2 ?k8 ?k9 ?k10 ?_; (case k1 => k_asm); (case k2 => k_asm); (case k3 => k_asm); (case k4 => k_asm); (case k5 => k_asm); (case k6 => exact rfl); (case kC1 => assumption); (case kC2 => assumption); (case k8 => exact ⟨hp1, hp2, hp3, hp4, hk1⟩); (case k9 => ktr_room); (case k10 => ktr_units); k_whole)
  intro d ta tb hz tz kb t0 dn dg
  (with_reducible rename Fr _ _ _ _ => zF)
  (with_reducible rename News _ _ _ _ => zN)
  have kp := keep_two hg zF.keep b1 b2 (zN _ (.head _)).1 (zN _ (.tail _ (.head _))).1
  exact hret _ _ d ta tb hz tz ⟨rfl, rfl⟩ (fun b o hb e => kb b o hb (kp b o e)) (t0.keep kp) (none_keep kp dn) dg
end Mine
end
section -- Kim2
theorem Mine.wTopOff11 : True := by w_top off; trivial
local macro_rules | `(tactic| walk_at "no such line") => `(tactic| fail)
local macro_rules | `(tactic| walk_at "no such line") => `(tactic| fail)
local macro_rules | `(tactic| walk_at "no such line") => `(tactic| fail)
local macro_rules | `(tactic| walk_at "no such line") => `(tactic| fail)
local macro_rules | `(tactic| walk_at "no such line") => `(tactic| fail)
local macro_rules | `(tactic| walk_at "no such line") => `(tactic| fail)
local macro_rules | `(tactic| walk_at "no such line") => `(tactic| fail)
local macro_rules | `(tactic| walk_at "no such line") => `(tactic| fail)
local macro_rules | `(tactic| walk_at "no such line") => `(tactic| fail)
local macro_rules | `(tactic| walk_at "no such line") => `(tactic| fail)
local macro_rules | `(tactic| walk_at "no such line") => `(tactic| fail)
local macro_rules | `(tactic| walk_at "no such line") => `(tactic| fail)
local macro_rules | `(tactic| walk_at "no such line") => `(tactic| fail)
local macro_rules | `(tactic| walk_at "no such line") => `(tactic| fail)
local macro_rules | `(tactic| walk_at "no such line") => `(tactic| fail)
local macro_rules | `(tactic| walk_at "no such line") => `(tactic| fail)
local macro_rules | `(tactic| walk_at "no such line") => `(tactic| fail)
local macro_rules | `(tactic| walk_at "no such line") => `(tactic| fail)
local macro_rules | `(tactic| walk_at "no such line") => `(tactic| fail)
local macro_rules | `(tactic| walk_at "no such line") => `(tactic| fail)
local macro_rules | `(tactic| walk_at "no such line") => `(tactic| fail)
local macro_rules | `(tactic| walk_at "no such line") => `(tactic| fail)
local macro_rules | `(tactic| walk_at "no such line") => `(tactic| fail)
local macro_rules | `(tactic| walk_at "no such line") => `(tactic| fail)
local macro_rules | `(tactic| walk_at "no such line") => `(tactic| fail)
local macro_rules | `(tactic| walk_at "eval BinOp") => `(tactic| (k_here; k_dflt (refine' Mine.pev_ok ?F ?e ?c ?k ?_; (case F => k_asm); (case e => exact rfl); (case c => (repeat (first | exact trivial | refine And.intro (by mul_fits) ?_))); (case k => rfl); k_whole)))
local macro_rules | `(tactic| walk_at "spliced") => `(tactic| (k_here; k_dflt (refine' Mine.args_ok ?F ?k ?e ?c ?_; (case F => k_asm); (case k => rfl); (case e => exact rfl); (case c => (repeat (first | exact trivial | refine And.intro (by mul_fits) ?_))); k_whole)))
local macro_rules | `(tactic| walk_at "isTrue Compare") => `(tactic| (k_here; k_dflt (refine' Mine.cmp_ok ?F ?e ?c ?k ?n ?_; (case F => k_asm); (case e => exact rfl); (case c => (repeat (first | exact trivial | refine And.intro (by mul_fits) ?_))); (case k => rfl); (case n => rfl); k_whole)))
local macro_rules | `(tactic| walk_at "exec Assign") => `(tactic| (k_here; k_dflt (refine' Mine.assign_ok ?F ?N ?e ?c ?k ?x ?s ?_; (case F => k_asm); (case N => k_asm); (case e => exact rfl); (case c => (repeat (first | exact trivial | refine And.intro (by mul_fits) ?_))); (case k => rfl); (case x => rfl); (case s => rfl); k_whole; intro h' m' F' N'; (try k_sweep))))
local macro_rules | `(tactic| walk_at "exec Return some") => `(tactic| (k_here; k_dflt (refine' Mine.ret_ok ?F ?e ?c ?k ?_; (case F => k_asm); (case e => exact rfl); (case c => (repeat (first | exact trivial | refine And.intro (by mul_fits) ?_))); (case k => rfl); k_whole)))
local macro_rules | `(tactic| walk_at "storeName") => `(tactic| (k_here; k_dflt (refine' Mine.storeY_L ?F ?N ?_ ?a ?b; (case F => k_asm); (case N => k_asm); (case a => rfl); (case b => rfl); k_whole; intro h' m' F' N'; (try k_sweep))))
local macro_rules | `(tactic| k_steps) => `(tactic| repeat' (first | dsimp only | (k_unfold; (try dsimp only)) | (k_end; wrow_close) | walk1 | (dsimp only; walk1) | (leave1; walk_say "STEP leave1"; try dsimp only) | fail "no step"))
local macro_rules | `(tactic| k_ne) => `(tactic| (refine PySem.W.neN ?_; (try dsimp only); first
  | with_reducible assumption
  | ((with_reducible refine Nat.ne_of_lt ?_); (repeat with_reducible refine Mine.nzLT ?_); (first | with_reducible assumption | exact Mine.nzA1 (by with_reducible assumption) | exact Mine.nzA2 (by with_reducible assumption) | exact Mine.nzZ2 (by with_reducible assumption) | exact Mine.nzA3 (by with_reducible assumption) | exact Mine.nzZ3 (by with_reducible assumption) | exact Mine.nzA4 (by with_reducible assumption) | exact Mine.nzZ4 (by with_reducible assumption) | exact Mine.nzA5 (by with_reducible assumption) | exact Mine.nzZ5 (by with_reducible assumption) | exact Mine.nzA6 (by with_reducible assumption) | exact Mine.nzZ6 (by with_reducible assumption) | exact Mine.nzA7 (by with_reducible assumption) | exact Mine.nzZ7 (by with_reducible assumption) | exact Mine.nzA8 (by with_reducible assumption) | exact Mine.nzZ8 (by with_reducible assumption) | exact Mine.nzA9 (by with_reducible assumption) | exact Mine.nzZ9 (by with_reducible assumption) | exact Mine.nzA10 (by with_reducible assumption) | exact Mine.nzZ10 (by with_reducible assumption) | exact Mine.nzA11 (by with_reducible assumption) | exact Mine.nzZ11 (by with_reducible assumption) | exact Mine.nzA12 (by with_reducible assumption) | exact Mine.nzZ12 (by with_reducible assumption) | exact Mine.nzA13 (by with_reducible assumption) | exact Mine.nzZ13 (by with_reducible assumption) | exact Mine.nzA14 (by with_reducible assumption) | exact Mine.nzZ14 (by with_reducible assumption) | exact Mine.nzA15 (by with_reducible assumption) | exact Mine.nzZ15 (by with_reducible assumption) | exact Mine.nzA16 (by with_reducible assumption) | exact Mine.nzZ16 (by with_reducible assumption)))
  | ((with_reducible refine Nat.ne_of_gt ?_); (repeat with_reducible refine Mine.nzLT ?_); (first | with_reducible assumption | exact Mine.nzA1 (by with_reducible assumption) | exact Mine.nzA2 (by with_reducible assumption) | exact Mine.nzZ2 (by with_reducible assumption) | exact Mine.nzA3 (by with_reducible assumption) | exact Mine.nzZ3 (by with_reducible assumption) | exact Mine.nzA4 (by with_reducible assumption) | exact Mine.nzZ4 (by with_reducible assumption) | exact Mine.nzA5 (by with_reducible assumption) | exact Mine.nzZ5 (by with_reducible assumption) | exact Mine.nzA6 (by with_reducible assumption) | exact Mine.nzZ6 (by with_reducible assumption) | exact Mine.nzA7 (by with_reducible assumption) | exact Mine.nzZ7 (by with_reducible assumption) | exact Mine.nzA8 (by with_reducible assumption) | exact Mine.nzZ8 (by with_reducible assumption) | exact Mine.nzA9 (by with_reducible assumption) | exact Mine.nzZ9 (by with_reducible assumption) | exact Mine.nzA10 (by with_reducible assumption) | exact Mine.nzZ10 (by with_reducible assumption) | exact Mine.nzA11 (by with_reducible assumption) | exact Mine.nzZ11 (by with_reducible assumption) | exact Mine.nzA12 (by with_reducible assumption) | exact Mine.nzZ12 (by with_reducible assumption) | exact Mine.nzA13 (by with_reducible assumption) | exact Mine.nzZ13 (by with_reducible assumption) | exact Mine.nzA14 (by with_reducible assumption) | exact Mine.nzZ14 (by with_reducible assumption) | exact Mine.nzA15 (by with_reducible assumption) | exact Mine.nzZ15 (by with_reducible assumption) | exact Mine.nzA16 (by with_reducible assumption) | exact Mine.nzZ16 (by with_reducible assumption)))
  | ((repeat with_reducible refine Mine.nzSS ?_); (first | with_reducible refine Mine.nzS0 ?_ | with_reducible refine Mine.nz0S ?_); (repeat (first | with_reducible exact Nat.le_refl _ | with_reducible refine Mine.nzLS ?_)); done)
  | (first | with_reducible assumption | exact Mine.nzA1 (by with_reducible assumption) | exact Mine.nzA2 (by with_reducible assumption) | exact Mine.nzZ2 (by with_reducible assumption) | exact Mine.nzA3 (by with_reducible assumption) | exact Mine.nzZ3 (by with_reducible assumption) | exact Mine.nzA4 (by with_reducible assumption) | exact Mine.nzZ4 (by with_reducible assumption) | exact Mine.nzA5 (by with_reducible assumption) | exact Mine.nzZ5 (by with_reducible assumption) | exact Mine.nzA6 (by with_reducible assumption) | exact Mine.nzZ6 (by with_reducible assumption) | exact Mine.nzA7 (by with_reducible assumption) | exact Mine.nzZ7 (by with_reducible assumption) | exact Mine.nzA8 (by with_reducible assumption) | exact Mine.nzZ8 (by with_reducible assumption) | exact Mine.nzA9 (by with_reducible assumption) | exact Mine.nzZ9 (by with_reducible assumption) | exact Mine.nzA10 (by with_reducible assumption) | exact Mine.nzZ10 (by with_reducible assumption) | exact Mine.nzA11 (by with_reducible assumption) | exact Mine.nzZ11 (by with_reducible assumption) | exact Mine.nzA12 (by with_reducible assumption) | exact Mine.nzZ12 (by with_reducible assumption) | exact Mine.nzA13 (by with_reducible assumption) | exact Mine.nzZ13 (by with_reducible assumption) | exact Mine.nzA14 (by with_reducible assumption) | exact Mine.nzZ14 (by with_reducible assumption) | exact Mine.nzA15 (by with_reducible assumption) | exact Mine.nzZ15 (by with_reducible assumption) | exact Mine.nzA16 (by with_reducible assumption) | exact Mine.nzZ16 (by with_reducible assumption))
  | (apply Ne.symm; (first | with_reducible assumption | exact Mine.nzA1 (by with_reducible assumption) | exact Mine.nzA2 (by with_reducible assumption) | exact Mine.nzZ2 (by with_reducible assumption) | exact Mine.nzA3 (by with_reducible assumption) | exact Mine.nzZ3 (by with_reducible assumption) | exact Mine.nzA4 (by with_reducible assumption) | exact Mine.nzZ4 (by with_reducible assumption) | exact Mine.nzA5 (by with_reducible assumption) | exact Mine.nzZ5 (by with_reducible assumption) | exact Mine.nzA6 (by with_reducible assumption) | exact Mine.nzZ6 (by with_reducible assumption) | exact Mine.nzA7 (by with_reducible assumption) | exact Mine.nzZ7 (by with_reducible assumption) | exact Mine.nzA8 (by with_reducible assumption) | exact Mine.nzZ8 (by with_reducible assumption) | exact Mine.nzA9 (by with_reducible assumption) | exact Mine.nzZ9 (by with_reducible assumption) | exact Mine.nzA10 (by with_reducible assumption) | exact Mine.nzZ10 (by with_reducible assumption) | exact Mine.nzA11 (by with_reducible assumption) | exact Mine.nzZ11 (by with_reducible assumption) | exact Mine.nzA12 (by with_reducible assumption) | exact Mine.nzZ12 (by with_reducible assumption) | exact Mine.nzA13 (by with_reducible assumption) | exact Mine.nzZ13 (by with_reducible assumption) | exact Mine.nzA14 (by with_reducible assumption) | exact Mine.nzZ14 (by with_reducible assumption) | exact Mine.nzA15 (by with_reducible assumption) | exact Mine.nzZ15 (by with_reducible assumption) | exact Mine.nzA16 (by with_reducible assumption) | exact Mine.nzZ16 (by with_reducible assumption)))
  | omega))
local macro_rules | `(tactic| k_lt $h:ident) => `(tactic| (replace $h := Mine.allLt1 $h; dsimp only [Mine.AllLt1, Mine.AllLtC] at $h:ident))
open PySem PySem.W PyProof.Rows
namespace Mine
set_option Elab.async false
theorem ledger2 {h₀ h : Heap} {L : Addr} {o1 o2 : Obj} (_ : News h₀ L h [(65, o1), (72, o2)]) : ∀ a ∈ [(65 : Addr), 72], ∃ o, (a, o) ∈ [((65 : Addr), o1), (72, o2)] := fun a ha => by
  rcases List.mem_cons.mp ha with e | ha
  · rw [e]; exact ⟨_, .head _⟩
  · rw [List.mem_singleton.mp ha]; exact ⟨_, .tail _ (.head _)⟩
set_option maxRecDepth 100000 in
set_option maxHeartbeats 8000000 in
set_option pp.deepTerms false in
set_option pp.maxSteps 6000 in
theorem im_T0 (w : World) (x y : Int) (t1 t2 : Tok) :
    CtrT w 32 320 91 [(65, tabObj #[]), (72, tabObj #[])] [.int x t1, .int y t2] (fun _ => -128 ≤ x ∧ x < 128 ∧ 0 < y ∧ y < 128) (fun _ => Ret0 fun q r => q = x / y ∧ r = x % y) := by
  dsimp only [CtrT, P0, LS, Ret0]
  k_fill
  intro mean mg mb dp un gd cn cs a ccd cl outer A₀ base h₀ L m s Q E B F X N T hk C1 C2 hpre hdp hun hret
  obtain ⟨hp1, hp2, hp3, hp4⟩ := hpre
  by_cases hx : 0 ≤ x
  · exact imp_T0 w x y t1 t2 mean mg mb dp un gd cn cs a ccd cl outer A₀ base h₀ L m s Q E B F X N T hk C1 C2 ⟨hx, hp2, hp3, hp4⟩ (by omega) (by omega) hret
  have hbn : ∀ z : Int, Builtin.bitNot z = -1 - z := fun z => by unfold Builtin.bitNot; omega
  have b1 := (N _ (.head _)).1
  have b2 := (N _ (.tail _ (.head _))).1
  refine wpAny_call ?_
  k_dflt (refine' enterT ?k1 ?k2 ?k3 ?k4 ?k5 ?kA ?kF ?kK ?k6 ?k7 ?k8 ?k9 ?kB ?kC1 ?kC2 ?_ ?c2 ?c3 ?c4 ?c5; (case kA => exact rfl); (case kF => exact rfl); (case kK => assumption); (case k1 => k_asm); (case k2 => k_asm); (case k3 => k_asm); (case k4 => k_asm); (case k5 => k_asm); (case k6 => k_is); (case k7 => k_is); (case k8 => ktr_room); (case k9 => exact BindsTo.of_eq rfl); (case c5 => decide); (case kB => exact locs rfl); (case kC1 => assumption); (case kC2 => assumption); (case c2 => exact rfl); (case c3 => exact rfl); (case c4 => exact rfl); k_whole)
  generalize hg : hideAll s.heap (List.map (·.1) [(65, tabObj #[]), (72, tabObj #[])]) = g'
  clear C1 C2 N F B X T
  intro L' h' F' N' B' X' T' C1 C2 l1
  (try k_lt l1)
  (try dsimp only)
  (try k_lift B')
  (try k_fold)
  (first | (refine Mine.letF F' ?_; clear F'; intro mz31 F') | skip); (first | (refine Mine.letAE ?_; intro envz31) | skip); (first | (refine Mine.genT ?_; intro tkz31) | skip)
  w_on
  k_steps
  all_goals (try (exfalso; omega))
  k_here
  rw [hbn]
  k_dflt (refine' imp_T0 w (-1 - x) y _ _ _ _ _ _ _ _ _ _ _ _ _ _ _ _ _ _ _ _ _ _ ?k1 ?k2 ?k3 ?k4 ?k5 ?k6 ?kC1 ?kC2 ?k8 ?k9 ?k10 ?_; (case k1 => k_asm); (case k2 => k_asm); (case k3 => k_asm); (case k4 => k_asm); (case k5 => k_asm); (case k6 => exact rfl); (case kC1 => assumption); (case kC2 => assumption); (case k8 => exact ⟨by omega, by omega, hp3, hp4⟩); (case k9 => ktr_room); (case k10 => ktr_units); k_whole)
  intro q r d ta tb hz tz hqr kb t0 dn dg
  obtain ⟨rfl, rfl⟩ := hqr
  obtain ⟨c1, oc1, vs1, tq1, c2, oc2, vs2, tq2, ⟨tn1, tn2, tn3, tn4, tg1, tg2, to1, td1, tv1, to2, td2, tv2⟩, n1, n2⟩ := t0
  (with_reducible rename Fr _ _ _ _ => zF)
  (with_reducible rename News _ _ _ _ => zN)
  have kp := keep_two hg zF.keep b1 b2 (zN _ (.head _)).1 (zN _ (.tail _ (.head _))).1
  have hb8 := ledger2 zN
  have F8 := frBut zF zN kb hb8
  have N8 : News g' L' hz [(d, tup2I ((-1 - x) / y) ((-1 - x) % y) ta tb), (c1, oc1), (c2, oc2), (65, tab65 c1), (72, tab72 c2)] := newsBut zF zN kb hb8 _ fun p hp => by
    simp only [List.mem_cons, List.not_mem_nil, or_false] at hp
    rcases hp with rfl | rfl | rfl | rfl | rfl
    · exact .inr (.inr ⟨dn, dg⟩)
    · exact .inr (.inr ⟨n1, to1⟩)
    · exact .inr (.inr ⟨n2, to2⟩)
    · exact .inr (.inl ⟨.head _, tg1⟩)
    · exact .inr (.inl ⟨.tail _ (.head _), tg2⟩)
  clear zF zN
  (try dsimp only)
  k_steps
  (with_reducible rename Fr _ _ _ _ => zF)
  (with_reducible rename News _ _ _ _ => zN)
  rename_i tk9 D9 h9 l9
  have z1 := zN _ (.head _)
  have z2 := (zN _ (.tail _ (.tail _ (.head _)))).1
  have z3 := (zN _ (.tail _ (.tail _ (.tail _ (.head _))))).1
  have z4 := (zN _ (.tail _ (.tail _ (.tail _ (.tail _ (.head _)))))).1
  have z5 := (zN _ (.tail _ (.tail _ (.tail _ (.tail _ (.tail _ (.head _))))))).1
  have hD : D9 ∉ ([65, 72] : List Addr) := fun hm => by
    rcases List.mem_cons.mp hm with e | hm
    · rw [e] at l9; exact absurd l9.2.2.2.1 (Nat.lt_irrefl _)
    · rw [List.mem_singleton.mp hm] at l9; exact absurd l9.2.2.2.2 (Nat.lt_irrefl _)
  have hi := inv_div (a := x) hp3
  (try dsimp only)
  refine hret _ _ D9 _ _ h9 _ ⟨?_, ?_⟩ (keepBut_hide hg zF.keep) ⟨_, _, _, _, _, _, _, _, ⟨tn1, tn2, tn3, tn4, z4, z5, z2, td1, tv1, z3, td2, tv2⟩, none_keep kp n1, none_keep kp n2⟩ (none_hide hg z1.2.2 hD) z1.1
  · rw [hbn]; exact hi.1.symm
  · rw [hbn, hi.2]; omega
end Mine
end
section -- Kim3
theorem Mine.wTopOff12 : True := by w_top off; trivial
local macro_rules | `(tactic| walk_at "no such line") => `(tactic| fail)
local macro_rules | `(tactic| walk_at "no such line") => `(tactic| fail)
local macro_rules | `(tactic| walk_at "no such line") => `(tactic| fail)
local macro_rules | `(tactic| walk_at "no such line") => `(tactic| fail)
local macro_rules | `(tactic| walk_at "no such line") => `(tactic| fail)
local macro_rules | `(tactic| walk_at "no such line") => `(tactic| fail)
local macro_rules | `(tactic| walk_at "no such line") => `(tactic| fail)
local macro_rules | `(tactic| walk_at "no such line") => `(tactic| fail)
local macro_rules | `(tactic| walk_at "no such line") => `(tactic| fail)
local macro_rules | `(tactic| walk_at "no such line") => `(tactic| fail)
local macro_rules | `(tactic| walk_at "no such line") => `(tactic| fail)
local macro_rules | `(tactic| walk_at "no such line") => `(tactic| fail)
local macro_rules | `(tactic| walk_at "no such line") => `(tactic| fail)
local macro_rules | `(tactic| walk_at "no such line") => `(tactic| fail)
local macro_rules | `(tactic| walk_at "no such line") => `(tactic| fail)
local macro_rules | `(tactic| walk_at "no such line") => `(tactic| fail)
local macro_rules | `(tactic| walk_at "no such line") => `(tactic| fail)
local macro_rules | `(tactic| walk_at "no such line") => `(tactic| fail)
local macro_rules | `(tactic| walk_at "no such line") => `(tactic| fail)
local macro_rules | `(tactic| walk_at "no such line") => `(tactic| fail)
local macro_rules | `(tactic| walk_at "no such line") => `(tactic| fail)
local macro_rules | `(tactic| walk_at "no such line") => `(tactic| fail)
local macro_rules | `(tactic| walk_at "no such line") => `(tactic| fail)
local macro_rules | `(tactic| walk_at "no such line") => `(tactic| fail)
local macro_rules | `(tactic| walk_at "no such line") => `(tactic| fail)
local macro_rules | `(tactic| walk_at "no such line") => `(tactic| fail)
local macro_rules | `(tactic| walk_at "no such line") => `(tactic| fail)
local macro_rules | `(tactic| walk_at "no such line") => `(tactic| fail)
local macro_rules | `(tactic| walk_at "no such line") => `(tactic| fail)
local macro_rules | `(tactic| walk_at "no such line") => `(tactic| fail)
local macro_rules | `(tactic| walk_at "no such line") => `(tactic| fail)
local macro_rules | `(tactic| walk_at "no such line") => `(tactic| fail)
local macro_rules | `(tactic| walk_at "no such line") => `(tactic| fail)
local macro_rules | `(tactic| walk_at "no such line") => `(tactic| fail)
local macro_rules | `(tactic| walk_at "no such line") => `(tactic| fail)
local macro_rules | `(tactic| walk_at "no such line") => `(tactic| fail)
local macro_rules | `(tactic| walk_at "no such line") => `(tactic| fail)
local macro_rules | `(tactic| walk_at "no such line") => `(tactic| fail)
local macro_rules | `(tactic| walk_at "no such line") => `(tactic| fail)
local macro_rules | `(tactic| walk_at "no such line") => `(tactic| fail)
local macro_rules | `(tactic| walk_at "no such line") => `(tactic| fail)
local macro_rules | `(tactic| walk_at "no such line") => `(tactic| fail)
local macro_rules | `(tactic| walk_at "no such line") => `(tactic| fail)
local macro_rules | `(tactic| walk_at "no such line") => `(tactic| fail)
local macro_rules | `(tactic| walk_at "no such line") => `(tactic| fail)
local macro_rules | `(tactic| walk_at "no such line") => `(tactic| fail)
local macro_rules | `(tactic| walk_at "no such line") => `(tactic| fail)
local macro_rules | `(tactic| walk_at "no such line") => `(tactic| fail)
local macro_rules | `(tactic| walk_at "no such line") => `(tactic| fail)
local macro_rules | `(tactic| walk_at "no such line") => `(tactic| fail)
local macro_rules | `(tactic| walk_at "eval BinOp") => `(tactic| (k_here; k_dflt (refine' Mine.pev_ok ?F ?e ?c ?k ?_; (case F => k_asm); (case e => exact rfl); (case c => (repeat (first | exact trivial | refine And.intro (by mul_fits) ?_))); (case k => rfl); k_whole)))
local macro_rules | `(tactic| walk_at "spliced") => `(tactic| (k_here; k_dflt (refine' Mine.args_ok ?F ?k ?e ?c ?_; (case F => k_asm); (case k => rfl); (case e => exact rfl); (case c => (repeat (first | exact trivial | refine And.intro (by mul_fits) ?_))); k_whole)))
local macro_rules | `(tactic| walk_at "isTrue Compare") => `(tactic| (k_here; k_dflt (refine' Mine.cmp_ok ?F ?e ?c ?k ?n ?_; (case F => k_asm); (case e => exact rfl); (case c => (repeat (first | exact trivial | refine And.intro (by mul_fits) ?_))); (case k => rfl); (case n => rfl); k_whole)))
local macro_rules | `(tactic| walk_at "exec Assign") => `(tactic| (k_here; k_dflt (refine' Mine.assign_ok ?F ?N ?e ?c ?k ?x ?s ?_; (case F => k_asm); (case N => k_asm); (case e => exact rfl); (case c => (repeat (first | exact trivial | refine And.intro (by mul_fits) ?_))); (case k => rfl); (case x => rfl); (case s => rfl); k_whole; intro h' m' F' N'; (try k_sweep))))
local macro_rules | `(tactic| walk_at "exec Return some") => `(tactic| (k_here; k_dflt (refine' Mine.ret_ok ?F ?e ?c ?k ?_; (case F => k_asm); (case e => exact rfl); (case c => (repeat (first | exact trivial | refine And.intro (by mul_fits) ?_))); (case k => rfl); k_whole)))
local macro_rules | `(tactic| walk_at "storeName") => `(tactic| (k_here; k_dflt (refine' Mine.storeY_L ?F ?N ?_ ?a ?b; (case F => k_asm); (case N => k_asm); (case a => rfl); (case b => rfl); k_whole; intro h' m' F' N'; (try k_sweep))))
local macro_rules | `(tactic| k_steps) => `(tactic| repeat' (first | dsimp only | (k_unfold; (try dsimp only)) | (k_end; wrow_close) | walk1 | (dsimp only; walk1) | (leave1; walk_say "STEP leave1"; try dsimp only) | fail "no step"))
local macro_rules | `(tactic| k_ne) => `(tactic| (refine PySem.W.neN ?_; (try dsimp only); first
  | with_reducible assumption
  | ((with_reducible refine Nat.ne_of_lt ?_); (repeat with_reducible refine Mine.nzLT ?_); (first | with_reducible assumption | exact Mine.nzA1 (by with_reducible assumption) | exact Mine.nzA2 (by with_reducible assumption) | exact Mine.nzZ2 (by with_reducible assumption) | exact Mine.nzA3 (by with_reducible assumption) | exact Mine.nzZ3 (by with_reducible assumption) | exact Mine.nzA4 (by with_reducible assumption) | exact Mine.nzZ4 (by with_reducible assumption) | exact Mine.nzA5 (by with_reducible assumption) | exact Mine.nzZ5 (by with_reducible assumption) | exact Mine.nzA6 (by with_reducible assumption) | exact Mine.nzZ6 (by with_reducible assumption) | exact Mine.nzA7 (by with_reducible assumption) | exact Mine.nzZ7 (by with_reducible assumption) | exact Mine.nzA8 (by with_reducible assumption) | exact Mine.nzZ8 (by with_reducible assumption) | exact Mine.nzA9 (by with_reducible assumption) | exact Mine.nzZ9 (by with_reducible assumption) | exact Mine.nzA10 (by with_reducible assumption) | exact Mine.nzZ10 (by with_reducible assumption) | exact Mine.nzA11 (by with_reducible assumption) | exact Mine.nzZ11 (by with_reducible assumption) | exact Mine.nzA12 (by with_reducible assumption) | exact Mine.nzZ12 (by with_reducible assumption) | exact Mine.nzA13 (by with_reducible assumption) | exact Mine.nzZ13 (by with_reducible assumption) | exact Mine.nzA14 (by with_reducible assumption) | exact Mine.nzZ14 (by with_reducible assumption) | exact Mine.nzA15 (by with_reducible assumption) | exact Mine.nzZ15 (by with_reducible assumption) | exact Mine.nzA16 (by with_reducible assumption) | exact Mine.nzZ16 (by with_reducible assumption)))
  | ((with_reducible refine Nat.ne_of_gt ?_); (repeat with_reducible refine Mine.nzLT ?_); (first | with_reducible assumption | exact Mine.nzA1 (by with_reducible assumption) | exact Mine.nzA2 (by with_reducible assumption) | exact Mine.nzZ2 (by with_reducible assumption) | exact Mine.nzA3 (by with_reducible assumption) | exact Mine.nzZ3 (by with_reducible assumption) | exact Mine.nzA4 (by with_reducible assumption) | exact Mine.nzZ4 (by with_reducible assumption) | exact Mine.nzA5 (by with_reducible assumption) | exact Mine.nzZ5 (by with_reducible assumption) | exact Mine.nzA6 (by with_reducible assumption) | exact Mine.nzZ6 (by with_reducible assumption) | exact Mine.nzA7 (by with_reducible assumption) | exact Mine.nzZ7 (by with_reducible assumption) | exact Mine.nzA8 (by with_reducible assumption) | exact Mine.nzZ8 (by with_reducible assumption) | exact Mine.nzA9 (by with_reducible assumption) | exact Mine.nzZ9 (by with_reducible assumption) | exact Mine.nzA10 (by with_reducible assumption) | exact Mine.nzZ10 (by with_reducible assumption) | exact Mine.nzA11 (by with_reducible assumption) | exact Mine.nzZ11 (by with_reducible assumption) | exact Mine.nzA12 (by with_reducible assumption) | exact Mine.nzZ12 (by with_reducible assumption) | exact Mine.nzA13 (by with_reducible assumption) | exact Mine.nzZ13 (by with_reducible assumption) | exact Mine.nzA14 (by with_reducible assumption) | exact Mine.nzZ14 (by with_reducible assumption) | exact Mine.nzA15 (by with_reducible assumption) | exact Mine.nzZ15 (by with_reducible assumption) | exact Mine.nzA16 (by with_reducible assumption) | exact Mine.nzZ16 (by with_reducible assumption)))
  | ((repeat with_reducible refine Mine.nzSS ?_); (first | with_reducible refine Mine.nzS0 ?_ | with_reducible refine Mine.nz0S ?_); (repeat (first | with_reducible exact Nat.le_refl _ | with_reducible refine Mine.nzLS ?_)); done)
  | (first | with_reducible assumption | exact Mine.nzA1 (by with_reducible assumption) | exact Mine.nzA2 (by with_reducible assumption) | exact Mine.nzZ2 (by with_reducible assumption) | exact Mine.nzA3 (by with_reducible assumption) | exact Mine.nzZ3 (by with_reducible assumption) | exact Mine.nzA4 (by with_reducible assumption) | exact Mine.nzZ4 (by with_reducible assumption) | exact Mine.nzA5 (by with_reducible assumption) | exact Mine.nzZ5 (by with_reducible assumption) | exact Mine.nzA6 (by with_reducible assumption) | exact Mine.nzZ6 (by with_reducible assumption) | exact Mine.nzA7 (by with_reducible assumption) | exact Mine.nzZ7 (by with_reducible assumption) | exact Mine.nzA8 (by with_reducible assumption) | exact Mine.nzZ8 (by with_reducible assumption) | exact Mine.nzA9 (by with_reducible assumption) | exact Mine.nzZ9 (by with_reducible assumption) | exact Mine.nzA10 (by with_reducible assumption) | exact Mine.nzZ10 (by with_reducible assumption) | exact Mine.nzA11 (by with_reducible assumption) | exact Mine.nzZ11 (by with_reducible assumption) | exact Mine.nzA12 (by with_reducible assumption) | exact Mine.nzZ12 (by with_reducible assumption) | exact Mine.nzA13 (by with_reducible assumption) | exact Mine.nzZ13 (by with_reducible assumption) | exact Mine.nzA14 (by with_reducible assumption) | exact Mine.nzZ14 (by with_reducible assumption) | exact Mine.nzA15 (by with_reducible assumption) | exact Mine.nzZ15 (by with_reducible assumption) | exact Mine.nzA16 (by with_reducible assumption) | exact Mine.nzZ16 (by with_reducible assumption))
  | (apply Ne.symm; (first | with_reducible assumption | exact Mine.nzA1 (by with_reducible assumption) | exact Mine.nzA2 (by with_reducible assumption) | exact Mine.nzZ2 (by with_reducible assumption) | exact Mine.nzA3 (by with_reducible assumption) | exact Mine.nzZ3 (by with_reducible assumption) | exact Mine.nzA4 (by with_reducible assumption) | exact Mine.nzZ4 (by with_reducible assumption) | exact Mine.nzA5 (by with_reducible assumption) | exact Mine.nzZ5 (by with_reducible assumption) | exact Mine.nzA6 (by with_reducible assumption) | exact Mine.nzZ6 (by with_reducible assumption) | exact Mine.nzA7 (by with_reducible assumption) | exact Mine.nzZ7 (by with_reducible assumption) | exact Mine.nzA8 (by with_reducible assumption) | exact Mine.nzZ8 (by with_reducible assumption) | exact Mine.nzA9 (by with_reducible assumption) | exact Mine.nzZ9 (by with_reducible assumption) | exact Mine.nzA10 (by with_reducible assumption) | exact Mine.nzZ10 (by with_reducible assumption) | exact Mine.nzA11 (by with_reducible assumption) | exact Mine.nzZ11 (by with_reducible assumption) | exact Mine.nzA12 (by with_reducible assumption) | exact Mine.nzZ12 (by with_reducible assumption) | exact Mine.nzA13 (by with_reducible assumption) | exact Mine.nzZ13 (by with_reducible assumption) | exact Mine.nzA14 (by with_reducible assumption) | exact Mine.nzZ14 (by with_reducible assumption) | exact Mine.nzA15 (by with_reducible assumption) | exact Mine.nzZ15 (by with_reducible assumption) | exact Mine.nzA16 (by with_reducible assumption) | exact Mine.nzZ16 (by with_reducible assumption)))
  | omega))
local macro_rules | `(tactic| k_lt $h:ident) => `(tactic| (replace $h := Mine.allLt1 $h; dsimp only [Mine.AllLt1, Mine.AllLtC] at $h:ident))
open PySem PySem.W PyProof.Rows
namespace Mine
set_option Elab.async false
theorem TFa.keep {h h' : Heap} {c1 : Addr} {oc1 : Obj} {vs1 : Array Value} {tq1 : Tok} {c2 : Addr} {oc2 : Obj} {vs2 : Array Value} {tq2 : Tok} (t : TFa h c1 oc1 vs1 tq1 c2 oc2 vs2 tq2) (k : Keep h h') : TFa h' c1 oc1 vs1 tq1 c2 oc2 vs2 tq2 :=
  ⟨t.n1, t.n2, t.n3, t.n4, k _ _ t.g1, k _ _ t.g2, k _ _ t.o1, t.d1, t.v1, k _ _ t.o2, t.d2, t.v2⟩
set_option maxRecDepth 100000 in
set_option maxHeartbeats 8000000 in
set_option pp.deepTerms false in
set_option pp.maxSteps 6000 in
theorem imp_T1 (w : World) (c1 : Addr) (oc1 : Obj) (vs1 : Array Value) (tq1 : Tok) (c2 : Addr) (oc2 : Obj) (vs2 : Array Value) (tq2 : Tok) (x y : Int) (t1 t2 : Tok) :
    CtrT w 28 280 91 [(65, tab65 c1), (72, tab72 c2)] [.int x t1, .int y t2] (fun h => TFa h c1 oc1 vs1 tq1 c2 oc2 vs2 tq2 ∧ 0 ≤ x ∧ x < 128 ∧ 0 < y ∧ y < 128) (fun _ => Ret1 fun q r => q = x / y ∧ r = x % y) := by
  dsimp only [CtrT, P0, LS, Ret1]
  k_fill
  intro mean mg mb dp un gd cn cs a ccd cl outer A₀ base h₀ L m s Q E B F X N T hk C1 C2 hpre hdp hun hret
  obtain ⟨hTF, hp1, hp2, hp3, hp4⟩ := hpre
  obtain ⟨k, hk1⟩ := digits_k hp1 hp2 hp3 hp4
  have b1 := (N _ (.head _)).1
  have b2 := (N _ (.tail _ (.head _))).1
  refine wpAny_call ?_
  k_dflt (refine' enterT ?k1 ?k2 ?k3 ?k4 ?k5 ?kA ?kF ?kK ?k6 ?k7 ?k8 ?k9 ?kB ?kC1 ?kC2 ?_ ?c2 ?c3 ?c4 ?c5; (case kA => exact rfl); (case kF => exact rfl); (case kK => assumption); (case k1 => k_asm); (case k2 => k_asm); (case k3 => k_asm); (case k4 => k_asm); (case k5 => k_asm); (case k6 => k_is); (case k7 => k_is); (case k8 => ktr_room); (case k9 => exact BindsTo.of_eq rfl); (case c5 => decide); (case kB => exact locs rfl); (case kC1 => assumption); (case kC2 => assumption); (case c2 => exact rfl); (case c3 => exact rfl); (case c4 => exact rfl); k_whole)
  generalize hg : hideAll s.heap (List.map (·.1) [(65, tab65 c1), (72, tab72 c2)]) = g'
  clear C1 C2 N F B X T
  intro L' h' F' N' B' X' T' C1 C2 l1
  (try k_lt l1)
  (try dsimp only)
  (try k_lift B')
  (try k_fold)
  (first | (refine Mine.letF F' ?_; clear F'; intro mz27 F') | skip); (first | (refine Mine.letAE ?_; intro envz27) | skip); (first | (refine Mine.genT ?_; intro tkz27) | skip)
  w_on
  k_steps
  all_goals (try (exfalso; omega))
  (with_reducible rename Fr _ _ _ _ => zF)
  (with_reducible rename News _ _ _ _ => zN)
  have kp := keep_two hg zF.keep b1 b2 (zN _ (.head _)).1 (zN _ (.tail _ (.head _))).1
  k_here
  k_dflt (refine' dp_T1 w c1 oc1 vs1 tq1 c2 oc2 vs2 tq2 x y k _ _ _ _ _ _ _ _ _ _ _ _ _ _ _ _ _ _ _ _ _ _ ?k1 ?k2 ?k3 ?k4 ?k5 ?k6 ?kC1 ?kC2 ?k8 ?k9 ?k10 ?_; (case k1 => k_asm); (case k2 => k_asm); (case k3 => k_asm); (case k4 => k_asm); (case k5 => k_asm); (case k6 => exact rfl); (case kC1 => assumption); (case kC2 => assumption); (case k8 => exact ⟨hTF.keep kp, hp1, hp2, hp3, hp4, hk1⟩); (case k9 => ktr_room); (case k10 => ktr_units); k_whole)
  intro d ta tb hz tz kb dn dg
  exact hret _ _ d ta tb hz tz ⟨rfl, rfl⟩ (fun b o e => kb b o (kp b o e)) (none_keep kp dn) dg
set_option maxRecDepth 100000 in
set_option maxHeartbeats 8000000 in
set_option pp.deepTerms false in
set_option pp.maxSteps 6000 in
theorem im_T1 (w : World) (c1 : Addr) (oc1 : Obj) (vs1 : Array Value) (tq1 : Tok) (c2 : Addr) (oc2 : Obj) (vs2 : Array Value) (tq2 : Tok) (x y : Int) (t1 t2 : Tok) :
    CtrT w 32 320 91 [(65, tab65 c1), (72, tab72 c2)] [.int x t1, .int y t2] (fun h => TFa h c1 oc1 vs1 tq1 c2 oc2 vs2 tq2 ∧ -128 ≤ x ∧ x < 128 ∧ 0 < y ∧ y < 128) (fun _ => Ret1 fun q r => q = x / y ∧ r = x % y) := by
  dsimp only [CtrT, P0, LS, Ret1]
  k_fill
  intro mean mg mb dp un gd cn cs a ccd cl outer A₀ base h₀ L m s Q E B F X N T hk C1 C2 hpre hdp hun hret
  obtain ⟨hTF, hp1, hp2, hp3, hp4⟩ := hpre
  by_cases hx : 0 ≤ x
  · exact imp_T1 w c1 oc1 vs1 tq1 c2 oc2 vs2 tq2 x y t1 t2 mean mg mb dp un gd cn cs a ccd cl outer A₀ base h₀ L m s Q E B F X N T hk C1 C2 ⟨hTF, hx, hp2, hp3, hp4⟩ (by omega) (by omega) hret
  have hbn : ∀ z : Int, Builtin.bitNot z = -1 - z := fun z => by unfold Builtin.bitNot; omega
  have b1 := (N _ (.head _)).1
  have b2 := (N _ (.tail _ (.head _))).1
  refine wpAny_call ?_
  k_dflt (refine' enterT ?k1 ?k2 ?k3 ?k4 ?k5 ?kA ?kF ?kK ?k6 ?k7 ?k8 ?k9 ?kB ?kC1 ?kC2 ?_ ?c2 ?c3 ?c4 ?c5; (case kA => exact rfl); (case kF => exact rfl); (case kK => assumption); (case k1 => k_asm); (case k2 => k_asm); (case k3 => k_asm); (case k4 => k_asm); (case k5 => k_asm); (case k6 => k_is); (case k7 => k_is); (case k8 => ktr_room); (case k9 => exact BindsTo.of_eq rfl); (case c5 => decide); (case kB => exact locs rfl); (case kC1 => assumption); (case kC2 => assumption); (case c2 => exact rfl); (case c3 => exact rfl); (case c4 => exact rfl); k_whole)
  generalize hg : hideAll s.heap (List.map (·.1) [(65, tab65 c1), (72, tab72 c2)]) = g'
  clear C1 C2 N F B X T
  intro L' h' F' N' B' X' T' C1 C2 l1
  (try k_lt l1)
  (try dsimp only)
  (try k_lift B')
  (try k_fold)
  (first | (refine Mine.letF F' ?_; clear F'; intro mz61 F') | skip); (first | (refine Mine.letAE ?_; intro envz61) | skip); (first | (refine Mine.genT ?_; intro tkz61) | skip)
  w_on
  k_steps
  all_goals (try (exfalso; omega))
  (with_reducible rename Fr _ _ _ _ => zF)
  (with_reducible rename News _ _ _ _ => zN)
  have kp := keep_two hg zF.keep b1 b2 (zN _ (.head _)).1 (zN _ (.tail _ (.head _))).1
  k_here
  rw [hbn]
  k_dflt (refine' imp_T1 w c1 oc1 vs1 tq1 c2 oc2 vs2 tq2 (-1 - x) y _ _ _ _ _ _ _ _ _ _ _ _ _ _ _ _ _ _ _ _ _ _ ?k1 ?k2 ?k3 ?k4 ?k5 ?k6 ?kC1 ?kC2 ?k8 ?k9 ?k10 ?_; (case k1 => k_asm); (case k2 => k_asm); (case k3 => k_asm); (case k4 => k_asm); (case k5 => k_asm); (case k6 => exact rfl); (case kC1 => assumption); (case kC2 => assumption); (case k8 => exact ⟨hTF.keep kp, by omega, by omega, hp3, hp4⟩); (case k9 => ktr_room); (case k10 => ktr_units); k_whole)
  intro q r d ta tb hz tz hqr kb dn dg
  obtain ⟨rfl, rfl⟩ := hqr
  have F8 := frKeep zF kb
  have N8 : News g' L' hz [(d, tup2I ((-1 - x) / y) ((-1 - x) % y) ta tb), (65, tab65 c1), (72, tab72 c2)] := newsKeep1 zF zN kb dn dg
  clear zF zN
  (try dsimp only)
  k_steps
  (with_reducible rename Fr _ _ _ _ => zF)
  (with_reducible rename News _ _ _ _ => zN)
  rename_i tk9 D9 h9 l9
  have z1 := zN _ (.head _)
  have z4 := (zN _ (.tail _ (.tail _ (.head _)))).1
  have z5 := (zN _ (.tail _ (.tail _ (.tail _ (.head _))))).1
  have hD : D9 ∉ ([65, 72] : List Addr) := fun hm => by
    rcases List.mem_cons.mp hm with e | hm
    · rw [e] at l9; exact absurd l9.2.1 (Nat.lt_irrefl _)
    · rw [List.mem_singleton.mp hm] at l9; exact absurd l9.2.2 (Nat.lt_irrefl _)
  have hi := inv_div (a := x) hp3
  (try dsimp only)
  refine hret _ _ D9 _ _ h9 _ ⟨?_, ?_⟩ (keep_two hg zF.keep b1 b2 z4 z5) (none_hide hg z1.2.2 hD) z1.1
  · rw [hbn]; exact hi.1.symm
  · rw [hbn, hi.2]; omega
end Mine
end
section -- Kmm
open PySem PySem.W PyProof.Rows PySem.Flt
namespace Mine
abbrev ltF (x y : UInt64) : Bool := Float64.cmp x y == some Ordering.lt
def max3F (x y z : UInt64) : UInt64 := if ltF x y = true then (if ltF y z = true then z else y) else (if ltF x z = true then z else x)
def min3F (x y z : UInt64) : UInt64 := if ltF y x = true then (if ltF z y = true then z else y) else (if ltF z x = true then z else x)
section
variable {prog : Program} {w : World} {A : Around} {E : Value → Shared → Prop} {s : Shared} {Q : Value → Shared → Prop} {x y z : UInt64} {t u v : Tok} {h₀ : Heap} {L : Addr} {m : Str → Option Value} {news : List (Addr × Obj)}
theorem tup3_fp {a b c : Value} (d : Addr) (hd : d ∈ [(s.heap.push { cls := .type "tuple", data := .seq #[a, b, c] }).objs.size, s.heap.objs.size]) (o : Obj) :
    d < ((s.heap.push { cls := .type "tuple", data := .seq #[a, b, c] }).push o).objs.size := by
  have e : ((s.heap.push { cls := .type "tuple", data := .seq #[a, b, c] }).push o).objs.size = s.heap.objs.size + 2 := by rw [Heap.size_push, Heap.size_push]
  have hd' : d = s.heap.objs.size + 1 ∨ d = s.heap.objs.size := by simpa [Heap.size_push] using hd
  show @LT.lt Nat _ d _
  rw [e]
  rcases hd' with e' | e'
  · rw [e']; exact Nat.lt_succ_self _
  · rw [e']; exact Nat.lt_add_of_pos_right (by decide)
theorem max3_ff (hh : A.handled = none) (F : Fr h₀ L s.heap m) (N : News h₀ L s.heap news)
    (h : ∀ h' tk v, Fr h₀ L h' m → News h₀ L h' news → Q (.float (max3F x y z) v) { s with heap := h', toks := tk }) :
    wpAny (model prog w) A (call (.builtin "max") [.float x t, .float y u, .float z v]) Q E s := by
  have hT : (s.heap.push { cls := .type "tuple", data := .seq #[.float x t, .float y u, .float z v] }).IsTuple s.heap.objs.size #[.float x t, .float y u, .float z v] := ⟨_, Heap.get?_push_size _ rfl, rfl, 0, rfl⟩
  refine call_max_three (wpAny_pyIter_tuple hT ?_)
  have hsz : (s.heap.push { cls := .type "tuple", data := .seq #[.float x t, .float y u, .float z v] }).objs.size = s.heap.objs.size + 1 := Heap.size_push ..
  refine ⟨_, [_, s.heap.objs.size], [_], _, _, _, _, rfl, Walks.tuple (A := A.in1) hh _ s.heap.objs.size (by rw [hsz]; exact Nat.ne_of_lt (Nat.lt_succ_self _)) #[.float x t, .float y u, .float z v],
    ⟨⟨_, Heap.get?_push_size _ rfl, rfl, rfl⟩, hT.push _⟩, fun d hd => tup3_fp d hd _, by simp, cmpOf_gt #[.float x t, .float y u, .float z v] (by intro v hv; simp at hv; rcases hv with rfl | rfl | rfl <;> exact .float _ _), fun r h' tk hP hk => ?_⟩
  have kp : ∀ d o, s.heap.get? d = some o → h'.get? d = some o := fun d o e => by
    refine hk d o (fun hm => ?_) (Heap.get?_push_of_some _ (Heap.get?_push_of_some _ e))
    have h1 := Heap.lt_size e
    rw [List.mem_singleton.mp hm, hsz] at h1
    exact absurd h1 (Nat.not_lt.mpr (Nat.le_succ _))
  have key := fun tok => h h' tk tok (F.grownK kp) (N.grown kp)
  have e1 : ltV (.float x t) (.float y u) = ltF x y := rfl
  have e2 : ltV (.float y u) (.float z v) = ltF y z := rfl
  have e3 : ltV (.float x t) (.float z v) = ltF x z := rfl
  unfold max3F at key
  cases c1 : ltF x y <;> cases c2 : ltF y z <;> cases c3 : ltF x z <;> simp [argBest, e1, e2, e3, c1, c2, c3] at hP key <;> subst hP <;> exact key _
theorem min3_ff (hh : A.handled = none) (F : Fr h₀ L s.heap m) (N : News h₀ L s.heap news)
    (h : ∀ h' tk v, Fr h₀ L h' m → News h₀ L h' news → Q (.float (min3F x y z) v) { s with heap := h', toks := tk }) :
    wpAny (model prog w) A (call (.builtin "min") [.float x t, .float y u, .float z v]) Q E s := by
  have hT : (s.heap.push { cls := .type "tuple", data := .seq #[.float x t, .float y u, .float z v] }).IsTuple s.heap.objs.size #[.float x t, .float y u, .float z v] := ⟨_, Heap.get?_push_size _ rfl, rfl, 0, rfl⟩
  refine call_min_three (wpAny_pyIter_tuple hT ?_)
  have hsz : (s.heap.push { cls := .type "tuple", data := .seq #[.float x t, .float y u, .float z v] }).objs.size = s.heap.objs.size + 1 := Heap.size_push ..
  refine ⟨_, [_, s.heap.objs.size], [_], _, _, _, _, rfl, Walks.tuple (A := A.in1) hh _ s.heap.objs.size (by rw [hsz]; exact Nat.ne_of_lt (Nat.lt_succ_self _)) #[.float x t, .float y u, .float z v],
    ⟨⟨_, Heap.get?_push_size _ rfl, rfl, rfl⟩, hT.push _⟩, fun d hd => tup3_fp d hd _, by simp, cmpOf_lt #[.float x t, .float y u, .float z v] (by intro v hv; simp at hv; rcases hv with rfl | rfl | rfl <;> exact .float _ _), fun r h' tk hP hk => ?_⟩
  have kp : ∀ d o, s.heap.get? d = some o → h'.get? d = some o := fun d o e => by
    refine hk d o (fun hm => ?_) (Heap.get?_push_of_some _ (Heap.get?_push_of_some _ e))
    have h1 := Heap.lt_size e
    rw [List.mem_singleton.mp hm, hsz] at h1
    exact absurd h1 (Nat.not_lt.mpr (Nat.le_succ _))
  have key := fun tok => h h' tk tok (F.grownK kp) (N.grown kp)
  have e1 : ltV (.float y u) (.float x t) = ltF y x := rfl
  have e2 : ltV (.float z v) (.float y u) = ltF z y := rfl
  have e3 : ltV (.float z v) (.float x t) = ltF z x := rfl
  unfold min3F at key
  cases c1 : ltF y x <;> cases c2 : ltF z y <;> cases c3 : ltF z x <;> simp [argBest, e1, e2, e3, c1, c2, c3] at hP key <;> subst hP <;> exact key _
end
end Mine
end
section -- Krgb
theorem Mine.wTopOff13 : True := by w_top off; trivial
local macro_rules | `(tactic| walk_at "eval BinOp") => `(tactic| (k_here; k_dflt (refine' Mine.pev_ok ?F ?e ?c ?k ?_; (case F => k_asm); (case e => exact rfl); (case c => (repeat (first | exact trivial | refine And.intro (by mul_fits) ?_))); (case k => rfl); k_whole)))
local macro_rules | `(tactic| walk_at "spliced") => `(tactic| (k_here; k_dflt (refine' Mine.args_ok ?F ?k ?e ?c ?_; (case F => k_asm); (case k => rfl); (case e => exact rfl); (case c => (repeat (first | exact trivial | refine And.intro (by mul_fits) ?_))); k_whole)))
local macro_rules | `(tactic| walk_at "isTrue Compare") => `(tactic| (k_here; k_dflt (refine' Mine.cmp_ok ?F ?e ?c ?k ?n ?_; (case F => k_asm); (case e => exact rfl); (case c => (repeat (first | exact trivial | refine And.intro (by mul_fits) ?_))); (case k => rfl); (case n => rfl); k_whole)))
local macro_rules | `(tactic| walk_at "exec Assign") => `(tactic| (k_here; k_dflt (refine' Mine.assign_ok ?F ?N ?e ?c ?k ?x ?s ?_; (case F => k_asm); (case N => k_asm); (case e => exact rfl); (case c => (repeat (first | exact trivial | refine And.intro (by mul_fits) ?_))); (case k => rfl); (case x => rfl); (case s => rfl); k_whole; intro h' m' F' N'; (try k_sweep))))
local macro_rules | `(tactic| walk_at "exec Return some") => `(tactic| (k_here; k_dflt (refine' Mine.ret_ok ?F ?e ?c ?k ?_; (case F => k_asm); (case e => exact rfl); (case c => (repeat (first | exact trivial | refine And.intro (by mul_fits) ?_))); (case k => rfl); k_whole)))
local macro_rules | `(tactic| walk_at "storeName") => `(tactic| (k_here; k_dflt (refine' Mine.storeY_L ?F ?N ?_ ?a ?b; (case F => k_asm); (case N => k_asm); (case a => rfl); (case b => rfl); k_whole; intro h' m' F' N'; (try k_sweep))))
local macro_rules | `(tactic| k_steps) => `(tactic| repeat' (first | dsimp only | (k_unfold; (try dsimp only)) | (k_end; wrow_close) | walk1 | (dsimp only; walk1) | (leave1; walk_say "STEP leave1"; try dsimp only) | fail "no step"))
local macro_rules | `(tactic| k_ne) => `(tactic| (refine PySem.W.neN ?_; (try dsimp only); first
  | with_reducible assumption
  | ((with_reducible refine Nat.ne_of_lt ?_); (repeat with_reducible refine Mine.nzLT ?_); (first | with_reducible assumption | exact Mine.nzA1 (by with_reducible assumption) | exact Mine.nzA2 (by with_reducible assumption) | exact Mine.nzZ2 (by with_reducible assumption) | exact Mine.nzA3 (by with_reducible assumption) | exact Mine.nzZ3 (by with_reducible assumption) | exact Mine.nzA4 (by with_reducible assumption) | exact Mine.nzZ4 (by with_reducible assumption) | exact Mine.nzA5 (by with_reducible assumption) | exact Mine.nzZ5 (by with_reducible assumption) | exact Mine.nzA6 (by with_reducible assumption) | exact Mine.nzZ6 (by with_reducible assumption) | exact Mine.nzA7 (by with_reducible assumption) | exact Mine.nzZ7 (by with_reducible assumption) | exact Mine.nzA8 (by with_reducible assumption) | exact Mine.nzZ8 (by with_reducible assumption) | exact Mine.nzA9 (by with_reducible assumption) | exact Mine.nzZ9 (by with_reducible assumption) | exact Mine.nzA10 (by with_reducible assumption) | exact Mine.nzZ10 (by with_reducible assumption) | exact Mine.nzA11 (by with_reducible assumption) | exact Mine.nzZ11 (by with_reducible assumption) | exact Mine.nzA12 (by with_reducible assumption) | exact Mine.nzZ12 (by with_reducible assumption) | exact Mine.nzA13 (by with_reducible assumption) | exact Mine.nzZ13 (by with_reducible assumption) | exact Mine.nzA14 (by with_reducible assumption) | exact Mine.nzZ14 (by with_reducible assumption) | exact Mine.nzA15 (by with_reducible assumption) | exact Mine.nzZ15 (by with_reducible assumption) | exact Mine.nzA16 (by with_reducible assumption) | exact Mine.nzZ16 (by with_reducible assumption)))
  | ((with_reducible refine Nat.ne_of_gt ?_); (repeat with_reducible refine Mine.nzLT ?_); (first | with_reducible assumption | exact Mine.nzA1 (by with_reducible assumption) | exact Mine.nzA2 (by with_reducible assumption) | exact Mine.nzZ2 (by with_reducible assumption) | exact Mine.nzA3 (by with_reducible assumption) | exact Mine.nzZ3 (by with_reducible assumption) | exact Mine.nzA4 (by with_reducible assumption) | exact Mine.nzZ4 (by with_reducible assumption) | exact Mine.nzA5 (by with_reducible assumption) | exact Mine.nzZ5 (by with_reducible assumption) | exact Mine.nzA6 (by with_reducible assumption) | exact Mine.nzZ6 (by with_reducible assumption) | exact Mine.nzA7 (by with_reducible assumption) | exact Mine.nzZ7 (by with_reducible assumption) | exact Mine.nzA8 (by with_reducible assumption) | exact Mine.nzZ8 (by with_reducible assumption) | exact Mine.nzA9 (by with_reducible assumption) | exact Mine.nzZ9 (by with_reducible assumption) | exact Mine.nzA10 (by with_reducible assumption) | exact Mine.nzZ10 (by with_reducible assumption) | exact Mine.nzA11 (by with_reducible assumption) | exact Mine.nzZ11 (by with_reducible assumption) | exact Mine.nzA12 (by with_reducible assumption) | exact Mine.nzZ12 (by with_reducible assumption) | exact Mine.nzA13 (by with_reducible assumption) | exact Mine.nzZ13 (by with_reducible assumption) | exact Mine.nzA14 (by with_reducible assumption) | exact Mine.nzZ14 (by with_reducible assumption) | exact Mine.nzA15 (by with_reducible assumption) | exact Mine.nzZ15 (by with_reducible assumption) | exact Mine.nzA16 (by with_reducible assumption) | exact Mine.nzZ16 (by with_reducible assumption)))
  | ((repeat with_reducible refine Mine.nzSS ?_); (first | with_reducible refine Mine.nzS0 ?_ | with_reducible refine Mine.nz0S ?_); (repeat (first | with_reducible exact Nat.le_refl _ | with_reducible refine Mine.nzLS ?_)); done)
  | (first | with_reducible assumption | exact Mine.nzA1 (by with_reducible assumption) | exact Mine.nzA2 (by with_reducible assumption) | exact Mine.nzZ2 (by with_reducible assumption) | exact Mine.nzA3 (by with_reducible assumption) | exact Mine.nzZ3 (by with_reducible assumption) | exact Mine.nzA4 (by with_reducible assumption) | exact Mine.nzZ4 (by with_reducible assumption) | exact Mine.nzA5 (by with_reducible assumption) | exact Mine.nzZ5 (by with_reducible assumption) | exact Mine.nzA6 (by with_reducible assumption) | exact Mine.nzZ6 (by with_reducible assumption) | exact Mine.nzA7 (by with_reducible assumption) | exact Mine.nzZ7 (by with_reducible assumption) | exact Mine.nzA8 (by with_reducible assumption) | exact Mine.nzZ8 (by with_reducible assumption) | exact Mine.nzA9 (by with_reducible assumption) | exact Mine.nzZ9 (by with_reducible assumption) | exact Mine.nzA10 (by with_reducible assumption) | exact Mine.nzZ10 (by with_reducible assumption) | exact Mine.nzA11 (by with_reducible assumption) | exact Mine.nzZ11 (by with_reducible assumption) | exact Mine.nzA12 (by with_reducible assumption) | exact Mine.nzZ12 (by with_reducible assumption) | exact Mine.nzA13 (by with_reducible assumption) | exact Mine.nzZ13 (by with_reducible assumption) | exact Mine.nzA14 (by with_reducible assumption) | exact Mine.nzZ14 (by with_reducible assumption) | exact Mine.nzA15 (by with_reducible assumption) | exact Mine.nzZ15 (by with_reducible assumption) | exact Mine.nzA16 (by with_reducible assumption) | exact Mine.nzZ16 (by with_reducible assumption))
  | (apply Ne.symm; (first | with_reducible assumption | exact Mine.nzA1 (by with_reducible assumption) | exact Mine.nzA2 (by with_reducible assumption) | exact Mine.nzZ2 (by with_reducible assumption) | exact Mine.nzA3 (by with_reducible assumption) | exact Mine.nzZ3 (by with_reducible assumption) | exact Mine.nzA4 (by with_reducible assumption) | exact Mine.nzZ4 (by with_reducible assumption) | exact Mine.nzA5 (by with_reducible assumption) | exact Mine.nzZ5 (by with_reducible assumption) | exact Mine.nzA6 (by with_reducible assumption) | exact Mine.nzZ6 (by with_reducible assumption) | exact Mine.nzA7 (by with_reducible assumption) | exact Mine.nzZ7 (by with_reducible assumption) | exact Mine.nzA8 (by with_reducible assumption) | exact Mine.nzZ8 (by with_reducible assumption) | exact Mine.nzA9 (by with_reducible assumption) | exact Mine.nzZ9 (by with_reducible assumption) | exact Mine.nzA10 (by with_reducible assumption) | exact Mine.nzZ10 (by with_reducible assumption) | exact Mine.nzA11 (by with_reducible assumption) | exact Mine.nzZ11 (by with_reducible assumption) | exact Mine.nzA12 (by with_reducible assumption) | exact Mine.nzZ12 (by with_reducible assumption) | exact Mine.nzA13 (by with_reducible assumption) | exact Mine.nzZ13 (by with_reducible assumption) | exact Mine.nzA14 (by with_reducible assumption) | exact Mine.nzZ14 (by with_reducible assumption) | exact Mine.nzA15 (by with_reducible assumption) | exact Mine.nzZ15 (by with_reducible assumption) | exact Mine.nzA16 (by with_reducible assumption) | exact Mine.nzZ16 (by with_reducible assumption)))
  | omega))
local macro_rules | `(tactic| k_lt $h:ident) => `(tactic| (replace $h := Mine.allLt1 $h; dsimp only [Mine.AllLt1, Mine.AllLtC] at $h:ident))
open PySem PySem.W PyProof.Rows
namespace Mine
set_option Elab.async false
abbrev eqF (x y : UInt64) : Bool := Float64.cmp x y == some Ordering.eq
def rgbL (mx mn : UInt64) : UInt64 := Float64.div (Float64.add mx mn) 4611686018427387904
def rgbS (mx mn : UInt64) : UInt64 := if leB (rgbL mx mn) 4602678819172646912 = true then Float64.div (Float64.sub mx mn) (Float64.add mx mn) else Float64.div (Float64.sub mx mn) (Float64.sub (Float64.sub 4611686018427387904 mx) mn)
def rgbC (mx mn x : UInt64) : UInt64 := Float64.div (Float64.sub mx x) (Float64.sub mx mn)
def rgbK (mx mn r g b : UInt64) : UInt64 := if eqF r mx = true then Float64.sub (rgbC mx mn b) (rgbC mx mn g) else if eqF g mx = true then Float64.sub (Float64.add 4611686018427387904 (rgbC mx mn r)) (rgbC mx mn b) else Float64.sub (Float64.add 4616189618054758400 (rgbC mx mn g)) (rgbC mx mn r)
def rgbH (mx mn r g b : UInt64) : UInt64 := (Float64.divmod (Float64.div (rgbK mx mn r g b) 4618441417868443648) 4607182418800017408).snd
local macro_rules | `(tactic| walk_at "call builtin:max") => `(tactic| (k_here; (with_reducible show wpAny _ _ (call (Value.builtin _) [Value.float _ _, Value.float _ _, Value.float _ _]) _ _ _); k_dflt (refine' max3_ff ?k1 ?k2 ?k3 ?_; (case k1 => rfl); (case k2 => k_asm); (case k3 => k_asm); k_whole); intro h' tk' v' F' N'; (try dsimp only)))
local macro_rules | `(tactic| walk_at "call builtin:min") => `(tactic| (k_here; (with_reducible show wpAny _ _ (call (Value.builtin _) [Value.float _ _, Value.float _ _, Value.float _ _]) _ _ _); k_dflt (refine' min3_ff ?k1 ?k2 ?k3 ?_; (case k1 => rfl); (case k2 => k_asm); (case k3 => k_asm); k_whole); intro h' tk' v' F' N'; (try dsimp only)))
set_option maxRecDepth 100000 in
set_option maxHeartbeats 8000000 in
theorem rgb_spec (w : World) (news : List (Addr × Obj)) (r g b : UInt64) (t1 t2 t3 : Tok) :
    Ctr w 8 80 28 news [.float r t1, .float g t2, .float b t3]
      (eqF (min3F r g b) (max3F r g b) = false ∧ Float64.isZero (Float64.sub (max3F r g b) (min3F r g b)) = false ∧ Float64.isZero (Float64.add (max3F r g b) (min3F r g b)) = false ∧ Float64.isZero (Float64.sub (Float64.sub 4611686018427387904 (max3F r g b)) (min3F r g b)) = false)
      (RetT3 news (rgbH (max3F r g b) (min3F r g b) r g b) (rgbL (max3F r g b) (min3F r g b)) (rgbS (max3F r g b) (min3F r g b))) := by
  dsimp only [Ctr, P0, LS, RetT3]
  k_fill
  intro mean mg mb dp un gd cn cs a ccd cl outer A₀ base h₀ L m s Q E B F X N T hk hpre hdp hun hret
  obtain ⟨hp1, hp2, hp3, hp4⟩ := hpre
  refine wpAny_call ?_
  k_dflt cell_enter
  k_steps
  all_goals first
    | (have e1 : rgbS (max3F r g b) (min3F r g b) = _ := if_pos (by assumption))
    | (have e1 : rgbS (max3F r g b) (min3F r g b) = _ := if_neg (Bool.eq_false_iff.mp (by assumption)))
  all_goals first
    | (have e2 : rgbK (max3F r g b) (min3F r g b) r g b = _ := if_pos (by assumption))
    | (have e2 : rgbK (max3F r g b) (min3F r g b) r g b = _ := (if_neg (Bool.eq_false_iff.mp (by assumption))).trans (if_pos (by assumption)))
    | (have e2 : rgbK (max3F r g b) (min3F r g b) r g b = _ := (if_neg (Bool.eq_false_iff.mp (by assumption))).trans (if_neg (Bool.eq_false_iff.mp (by assumption))))
  all_goals (simp only [rgbH, e1, e2, rgbC] at hret; exact hret _ _ _ _ _ _ (by assumption) (by assumption))
end Mine
end
section -- Knear
theorem Mine.wTopOff14 : True := by w_top off; trivial
local macro_rules | `(tactic| walk_at "no such line") => `(tactic| fail)
local macro_rules | `(tactic| walk_at "no such line") => `(tactic| fail)
local macro_rules | `(tactic| walk_at "no such line") => `(tactic| fail)
local macro_rules | `(tactic| walk_at "no such line") => `(tactic| fail)
local macro_rules | `(tactic| walk_at "no such line") => `(tactic| fail)
local macro_rules | `(tactic| walk_at "no such line") => `(tactic| fail)
local macro_rules | `(tactic| walk_at "no such line") => `(tactic| fail)
local macro_rules | `(tactic| walk_at "no such line") => `(tactic| fail)
local macro_rules | `(tactic| walk_at "no such line") => `(tactic| fail)
local macro_rules | `(tactic| walk_at "no such line") => `(tactic| fail)
local macro_rules | `(tactic| walk_at "no such line") => `(tactic| fail)
local macro_rules | `(tactic| walk_at "no such line") => `(tactic| fail)
local macro_rules | `(tactic| walk_at "no such line") => `(tactic| fail)
local macro_rules | `(tactic| walk_at "no such line") => `(tactic| fail)
local macro_rules | `(tactic| walk_at "no such line") => `(tactic| fail)
local macro_rules | `(tactic| walk_at "no such line") => `(tactic| fail)
local macro_rules | `(tactic| walk_at "no such line") => `(tactic| fail)
local macro_rules | `(tactic| walk_at "no such line") => `(tactic| fail)
local macro_rules | `(tactic| walk_at "no such line") => `(tactic| fail)
local macro_rules | `(tactic| walk_at "no such line") => `(tactic| fail)
local macro_rules | `(tactic| walk_at "no such line") => `(tactic| fail)
local macro_rules | `(tactic| walk_at "no such line") => `(tactic| fail)
local macro_rules | `(tactic| walk_at "no such line") => `(tactic| fail)
local macro_rules | `(tactic| walk_at "no such line") => `(tactic| fail)
local macro_rules | `(tactic| walk_at "no such line") => `(tactic| fail)
local macro_rules | `(tactic| k_ne) => `(tactic| (refine PySem.W.neN ?_; (try dsimp only); first
  | with_reducible assumption
  | ((with_reducible refine Nat.ne_of_lt ?_); (repeat with_reducible refine Mine.nzLT ?_); (first | with_reducible assumption | exact Mine.nzA1 (by with_reducible assumption) | exact Mine.nzA2 (by with_reducible assumption) | exact Mine.nzZ2 (by with_reducible assumption) | exact Mine.nzA3 (by with_reducible assumption) | exact Mine.nzZ3 (by with_reducible assumption) | exact Mine.nzA4 (by with_reducible assumption) | exact Mine.nzZ4 (by with_reducible assumption) | exact Mine.nzA5 (by with_reducible assumption) | exact Mine.nzZ5 (by with_reducible assumption) | exact Mine.nzA6 (by with_reducible assumption) | exact Mine.nzZ6 (by with_reducible assumption) | exact Mine.nzA7 (by with_reducible assumption) | exact Mine.nzZ7 (by with_reducible assumption) | exact Mine.nzA8 (by with_reducible assumption) | exact Mine.nzZ8 (by with_reducible assumption) | exact Mine.nzA9 (by with_reducible assumption) | exact Mine.nzZ9 (by with_reducible assumption) | exact Mine.nzA10 (by with_reducible assumption) | exact Mine.nzZ10 (by with_reducible assumption) | exact Mine.nzA11 (by with_reducible assumption) | exact Mine.nzZ11 (by with_reducible assumption) | exact Mine.nzA12 (by with_reducible assumption) | exact Mine.nzZ12 (by with_reducible assumption) | exact Mine.nzA13 (by with_reducible assumption) | exact Mine.nzZ13 (by with_reducible assumption) | exact Mine.nzA14 (by with_reducible assumption) | exact Mine.nzZ14 (by with_reducible assumption) | exact Mine.nzA15 (by with_reducible assumption) | exact Mine.nzZ15 (by with_reducible assumption) | exact Mine.nzA16 (by with_reducible assumption) | exact Mine.nzZ16 (by with_reducible assumption)))
  | ((with_reducible refine Nat.ne_of_gt ?_); (repeat with_reducible refine Mine.nzLT ?_); (first | with_reducible assumption | exact Mine.nzA1 (by with_reducible assumption) | exact Mine.nzA2 (by with_reducible assumption) | exact Mine.nzZ2 (by with_reducible assumption) | exact Mine.nzA3 (by with_reducible assumption) | exact Mine.nzZ3 (by with_reducible assumption) | exact Mine.nzA4 (by with_reducible assumption) | exact Mine.nzZ4 (by with_reducible assumption) | exact Mine.nzA5 (by with_reducible assumption) | exact Mine.nzZ5 (by with_reducible assumption) | exact Mine.nzA6 (by with_reducible assumption) | exact Mine.nzZ6 (by with_reducible assumption) | exact Mine.nzA7 (by with_reducible assumption) | exact Mine.nzZ7 (by with_reducible assumption) | exact Mine.nzA8 (by with_reducible assumption) | exact Mine.nzZ8 (by with_reducible assumption) | exact Mine.nzA9 (by with_reducible assumption) | exact Mine.nzZ9 (by with_reducible assumption) | exact Mine.nzA10 (by with_reducible assumption) | exact Mine.nzZ10 (by with_reducible assumption) | exact Mine.nzA11 (by with_reducible assumption) | exact Mine.nzZ11 (by with_reducible assumption) | exact Mine.nzA12 (by with_reducible assumption) | exact Mine.nzZ12 (by with_reducible assumption) | exact Mine.nzA13 (by with_reducible assumption) | exact Mine.nzZ13 (by with_reducible assumption) | exact Mine.nzA14 (by with_reducible assumption) | exact Mine.nzZ14 (by with_reducible assumption) | exact Mine.nzA15 (by with_reducible assumption) | exact Mine.nzZ15 (by with_reducible assumption) | exact Mine.nzA16 (by with_reducible assumption) | exact Mine.nzZ16 (by with_reducible assumption)))
  | ((repeat with_reducible refine Mine.nzSS ?_); (first | with_reducible refine Mine.nzS0 ?_ | with_reducible refine Mine.nz0S ?_); (repeat (first | with_reducible exact Nat.le_refl _ | with_reducible refine Mine.nzLS ?_)); done)
  | (first | with_reducible assumption | exact Mine.nzA1 (by with_reducible assumption) | exact Mine.nzA2 (by with_reducible assumption) | exact Mine.nzZ2 (by with_reducible assumption) | exact Mine.nzA3 (by with_reducible assumption) | exact Mine.nzZ3 (by with_reducible assumption) | exact Mine.nzA4 (by with_reducible assumption) | exact Mine.nzZ4 (by with_reducible assumption) | exact Mine.nzA5 (by with_reducible assumption) | exact Mine.nzZ5 (by with_reducible assumption) | exact Mine.nzA6 (by with_reducible assumption) | exact Mine.nzZ6 (by with_reducible assumption) | exact Mine.nzA7 (by with_reducible assumption) | exact Mine.nzZ7 (by with_reducible assumption) | exact Mine.nzA8 (by with_reducible assumption) | exact Mine.nzZ8 (by with_reducible assumption) | exact Mine.nzA9 (by with_reducible assumption) | exact Mine.nzZ9 (by with_reducible assumption) | exact Mine.nzA10 (by with_reducible assumption) | exact Mine.nzZ10 (by with_reducible assumption) | exact Mine.nzA11 (by with_reducible assumption) | exact Mine.nzZ11 (by with_reducible assumption) | exact Mine.nzA12 (by with_reducible assumption) | exact Mine.nzZ12 (by with_reducible assumption) | exact Mine.nzA13 (by with_reducible assumption) | exact Mine.nzZ13 (by with_reducible assumption) | exact Mine.nzA14 (by with_reducible assumption) | exact Mine.nzZ14 (by with_reducible assumption) | exact Mine.nzA15 (by with_reducible assumption) | exact Mine.nzZ15 (by with_reducible assumption) | exact Mine.nzA16 (by with_reducible assumption) | exact Mine.nzZ16 (by with_reducible assumption))
  | (apply Ne.symm; (first | with_reducible assumption | exact Mine.nzA1 (by with_reducible assumption) | exact Mine.nzA2 (by with_reducible assumption) | exact Mine.nzZ2 (by with_reducible assumption) | exact Mine.nzA3 (by with_reducible assumption) | exact Mine.nzZ3 (by with_reducible assumption) | exact Mine.nzA4 (by with_reducible assumption) | exact Mine.nzZ4 (by with_reducible assumption) | exact Mine.nzA5 (by with_reducible assumption) | exact Mine.nzZ5 (by with_reducible assumption) | exact Mine.nzA6 (by with_reducible assumption) | exact Mine.nzZ6 (by with_reducible assumption) | exact Mine.nzA7 (by with_reducible assumption) | exact Mine.nzZ7 (by with_reducible assumption) | exact Mine.nzA8 (by with_reducible assumption) | exact Mine.nzZ8 (by with_reducible assumption) | exact Mine.nzA9 (by with_reducible assumption) | exact Mine.nzZ9 (by with_reducible assumption) | exact Mine.nzA10 (by with_reducible assumption) | exact Mine.nzZ10 (by with_reducible assumption) | exact Mine.nzA11 (by with_reducible assumption) | exact Mine.nzZ11 (by with_reducible assumption) | exact Mine.nzA12 (by with_reducible assumption) | exact Mine.nzZ12 (by with_reducible assumption) | exact Mine.nzA13 (by with_reducible assumption) | exact Mine.nzZ13 (by with_reducible assumption) | exact Mine.nzA14 (by with_reducible assumption) | exact Mine.nzZ14 (by with_reducible assumption) | exact Mine.nzA15 (by with_reducible assumption) | exact Mine.nzZ15 (by with_reducible assumption) | exact Mine.nzA16 (by with_reducible assumption) | exact Mine.nzZ16 (by with_reducible assumption)))
  | omega))
local macro_rules | `(tactic| k_lt $h:ident) => `(tactic| (replace $h := Mine.allLt1 $h; dsimp only [Mine.AllLt1, Mine.AllLtC] at $h:ident))
open PySem PySem.W PyProof.Rows
namespace Mine
set_option Elab.async false
set_option maxRecDepth 100000 in
set_option maxHeartbeats 8000000 in
theorem near_spec (w : World) (news : List (Addr × Obj)) (x : UInt64) (d : Int) (t1 t2 : Tok) :
    Ctr w 4 40 164 news [.float x t1, .int d t2] (d.natAbs < 2 ^ 40) (RetV news fun _ => .bool (nearB x d)) := by
  dsimp only [Ctr, P0, LS, RetV]
  k_fill
  intro mean mg mb dp un gd cn cs a ccd cl outer A₀ base h₀ L m s Q E B F X N T hk hpre hdp hun hret
  refine wpAny_call ?_
  k_dflt cell_enter
  k_steps
  exact hret 0 _ _ (by assumption) (by assumption)
end Mine
end
section -- Karm
theorem Mine.wTopOff15 : True := by w_top off; trivial
local macro_rules | `(tactic| walk_at "no such line") => `(tactic| fail)
local macro_rules | `(tactic| walk_at "no such line") => `(tactic| fail)
local macro_rules | `(tactic| walk_at "no such line") => `(tactic| fail)
local macro_rules | `(tactic| walk_at "no such line") => `(tactic| fail)
local macro_rules | `(tactic| walk_at "no such line") => `(tactic| fail)
local macro_rules | `(tactic| walk_at "no such line") => `(tactic| fail)
local macro_rules | `(tactic| walk_at "no such line") => `(tactic| fail)
local macro_rules | `(tactic| walk_at "no such line") => `(tactic| fail)
local macro_rules | `(tactic| walk_at "no such line") => `(tactic| fail)
local macro_rules | `(tactic| walk_at "no such line") => `(tactic| fail)
local macro_rules | `(tactic| walk_at "no such line") => `(tactic| fail)
local macro_rules | `(tactic| walk_at "no such line") => `(tactic| fail)
local macro_rules | `(tactic| walk_at "no such line") => `(tactic| fail)
local macro_rules | `(tactic| walk_at "no such line") => `(tactic| fail)
local macro_rules | `(tactic| walk_at "no such line") => `(tactic| fail)
local macro_rules | `(tactic| walk_at "no such line") => `(tactic| fail)
local macro_rules | `(tactic| walk_at "no such line") => `(tactic| fail)
local macro_rules | `(tactic| walk_at "no such line") => `(tactic| fail)
local macro_rules | `(tactic| walk_at "no such line") => `(tactic| fail)
local macro_rules | `(tactic| walk_at "no such line") => `(tactic| fail)
local macro_rules | `(tactic| walk_at "no such line") => `(tactic| fail)
local macro_rules | `(tactic| walk_at "no such line") => `(tactic| fail)
local macro_rules | `(tactic| walk_at "no such line") => `(tactic| fail)
local macro_rules | `(tactic| walk_at "no such line") => `(tactic| fail)
local macro_rules | `(tactic| walk_at "no such line") => `(tactic| fail)
local macro_rules | `(tactic| walk_at "no such line") => `(tactic| fail)
local macro_rules | `(tactic| walk_at "no such line") => `(tactic| fail)
local macro_rules | `(tactic| walk_at "no such line") => `(tactic| fail)
local macro_rules | `(tactic| walk_at "no such line") => `(tactic| fail)
local macro_rules | `(tactic| walk_at "no such line") => `(tactic| fail)
local macro_rules | `(tactic| walk_at "no such line") => `(tactic| fail)
local macro_rules | `(tactic| walk_at "no such line") => `(tactic| fail)
local macro_rules | `(tactic| walk_at "no such line") => `(tactic| fail)
local macro_rules | `(tactic| walk_at "no such line") => `(tactic| fail)
local macro_rules | `(tactic| walk_at "no such line") => `(tactic| fail)
local macro_rules | `(tactic| walk_at "no such line") => `(tactic| fail)
local macro_rules | `(tactic| walk_at "no such line") => `(tactic| fail)
local macro_rules | `(tactic| walk_at "no such line") => `(tactic| fail)
local macro_rules | `(tactic| walk_at "no such line") => `(tactic| fail)
local macro_rules | `(tactic| walk_at "no such line") => `(tactic| fail)
local macro_rules | `(tactic| walk_at "no such line") => `(tactic| fail)
local macro_rules | `(tactic| walk_at "no such line") => `(tactic| fail)
local macro_rules | `(tactic| walk_at "no such line") => `(tactic| fail)
local macro_rules | `(tactic| walk_at "no such line") => `(tactic| fail)
local macro_rules | `(tactic| walk_at "no such line") => `(tactic| fail)
local macro_rules | `(tactic| walk_at "no such line") => `(tactic| fail)
local macro_rules | `(tactic| walk_at "no such line") => `(tactic| fail)
local macro_rules | `(tactic| walk_at "no such line") => `(tactic| fail)
local macro_rules | `(tactic| walk_at "no such line") => `(tactic| fail)
local macro_rules | `(tactic| walk_at "no such line") => `(tactic| fail)
local macro_rules | `(tactic| walk_at "eval BinOp") => `(tactic| (k_here; k_dflt (refine' Mine.pev_ok ?F ?e ?c ?k ?_; (case F => k_asm); (case e => exact rfl); (case c => (repeat (first | exact trivial | refine And.intro (by mul_fits) ?_))); (case k => rfl); k_whole)))
local macro_rules | `(tactic| walk_at "spliced") => `(tactic| (k_here; k_dflt (refine' Mine.args_ok ?F ?k ?e ?c ?_; (case F => k_asm); (case k => rfl); (case e => exact rfl); (case c => (repeat (first | exact trivial | refine And.intro (by mul_fits) ?_))); k_whole)))
local macro_rules | `(tactic| walk_at "isTrue Compare") => `(tactic| (k_here; k_dflt (refine' Mine.cmp_ok ?F ?e ?c ?k ?n ?_; (case F => k_asm); (case e => exact rfl); (case c => (repeat (first | exact trivial | refine And.intro (by mul_fits) ?_))); (case k => rfl); (case n => rfl); k_whole)))
local macro_rules | `(tactic| walk_at "exec Assign") => `(tactic| (k_here; k_dflt (refine' Mine.assign_ok ?F ?N ?e ?c ?k ?x ?s ?_; (case F => k_asm); (case N => k_asm); (case e => exact rfl); (case c => (repeat (first | exact trivial | refine And.intro (by mul_fits) ?_))); (case k => rfl); (case x => rfl); (case s => rfl); k_whole; intro h' m' F' N'; (try k_sweep))))
local macro_rules | `(tactic| walk_at "exec Return some") => `(tactic| (k_here; k_dflt (refine' Mine.ret_ok ?F ?e ?c ?k ?_; (case F => k_asm); (case e => exact rfl); (case c => (repeat (first | exact trivial | refine And.intro (by mul_fits) ?_))); (case k => rfl); k_whole)))
local macro_rules | `(tactic| walk_at "storeName") => `(tactic| (k_here; k_dflt (refine' Mine.storeY_L ?F ?N ?_ ?a ?b; (case F => k_asm); (case N => k_asm); (case a => rfl); (case b => rfl); k_whole; intro h' m' F' N'; (try k_sweep))))
local macro_rules | `(tactic| k_steps) => `(tactic| repeat' (first | dsimp only | (k_unfold; (try dsimp only)) | (k_end; wrow_close) | walk1 | (dsimp only; walk1) | (leave1; walk_say "STEP leave1"; try dsimp only) | fail "no step"))
local macro_rules | `(tactic| k_ne) => `(tactic| (refine PySem.W.neN ?_; (try dsimp only); first
  | with_reducible assumption
  | ((with_reducible refine Nat.ne_of_lt ?_); (repeat with_reducible refine Mine.nzLT ?_); (first | with_reducible assumption | exact Mine.nzA1 (by with_reducible assumption) | exact Mine.nzA2 (by with_reducible assumption) | exact Mine.nzZ2 (by with_reducible assumption) | exact Mine.nzA3 (by with_reducible assumption) | exact Mine.nzZ3 (by with_reducible assumption) | exact Mine.nzA4 (by with_reducible assumption) | exact Mine.nzZ4 (by with_reducible assumption) | exact Mine.nzA5 (by with_reducible assumption) | exact Mine.nzZ5 (by with_reducible assumption) | exact Mine.nzA6 (by with_reducible assumption) | exact Mine.nzZ6 (by with_reducible assumption) | exact Mine.nzA7 (by with_reducible assumption) | exact Mine.nzZ7 (by with_reducible assumption) | exact Mine.nzA8 (by with_reducible assumption) | exact Mine.nzZ8 (by with_reducible assumption) | exact Mine.nzA9 (by with_reducible assumption) | exact Mine.nzZ9 (by with_reducible assumption) | exact Mine.nzA10 (by with_reducible assumption) | exact Mine.nzZ10 (by with_reducible assumption) | exact Mine.nzA11 (by with_reducible assumption) | exact Mine.nzZ11 (by with_reducible assumption) | exact Mine.nzA12 (by with_reducible assumption) | exact Mine.nzZ12 (by with_reducible assumption) | exact Mine.nzA13 (by with_reducible assumption) | exact Mine.nzZ13 (by with_reducible assumption) | exact Mine.nzA14 (by with_reducible assumption) | exact Mine.nzZ14 (by with_reducible assumption) | exact Mine.nzA15 (by with_reducible assumption) | exact Mine.nzZ15 (by with_reducible assumption) | exact Mine.nzA16 (by with_reducible assumption) | exact Mine.nzZ16 (by with_reducible assumption)))
  | ((with_reducible refine Nat.ne_of_gt ?_); (repeat with_reducible refine Mine.nzLT ?_); (first | with_reducible assumption | exact Mine.nzA1 (by with_reducible assumption) | exact Mine.nzA2 (by with_reducible assumption) | exact Mine.nzZ2 (by with_reducible assumption) | exact Mine.nzA3 (by with_reducible assumption) | exact Mine.nzZ3 (by with_reducible assumption) | exact Mine.nzA4 (by with_reducible assumption) | exact Mine.nzZ4 (by with_reducible assumption) | exact Mine.nzA5 (by with_reducible assumption) | exact Mine.nzZ5 (by with_reducible assumption) | exact Mine.nzA6 (by with_reducible assumption) | exact Mine.nzZ6 (by with_reducible assumption) | exact Mine.nzA7 (by with_reducible assumption) | exact Mine.nzZ7 (by with_reducible assumption) | exact Mine.nzA8 (by with_reducible assumption) | exact Mine.nzZ8 (by with_reducible assumption) | exact Mine.nzA9 (by with_reducible assumption) | exact Mine.nzZ9 (by with_reducible assumption) | exact Mine.nzA10 (by with_reducible assumption) | exact Mine.nzZ10 (by with_reducible assumption) | exact Mine.nzA11 (by with_reducible assumption) | exact Mine.nzZ11 (by with_reducible assumption) | exact Mine.nzA12 (by with_reducible assumption) | exact Mine.nzZ12 (by with_reducible assumption) | exact Mine.nzA13 (by with_reducible assumption) | exact Mine.nzZ13 (by with_reducible assumption) | exact Mine.nzA14 (by with_reducible assumption) | exact Mine.nzZ14 (by with_reducible assumption) | exact Mine.nzA15 (by with_reducible assumption) | exact Mine.nzZ15 (by with_reducible assumption) | exact Mine.nzA16 (by with_reducible assumption) | exact Mine.nzZ16 (by with_reducible assumption)))
  | ((repeat with_reducible refine Mine.nzSS ?_); (first | with_reducible refine Mine.nzS0 ?_ | with_reducible refine Mine.nz0S ?_); (repeat (first | with_reducible exact Nat.le_refl _ | with_reducible refine Mine.nzLS ?_)); done)
  | (first | with_reducible assumption | exact Mine.nzA1 (by with_reducible assumption) | exact Mine.nzA2 (by with_reducible assumption) | exact Mine.nzZ2 (by with_reducible assumption) | exact Mine.nzA3 (by with_reducible assumption) | exact Mine.nzZ3 (by with_reducible assumption) | exact Mine.nzA4 (by with_reducible assumption) | exact Mine.nzZ4 (by with_reducible assumption) | exact Mine.nzA5 (by with_reducible assumption) | exact Mine.nzZ5 (by with_reducible assumption) | exact Mine.nzA6 (by with_reducible assumption) | exact Mine.nzZ6 (by with_reducible assumption) | exact Mine.nzA7 (by with_reducible assumption) | exact Mine.nzZ7 (by with_reducible assumption) | exact Mine.nzA8 (by with_reducible assumption) | exact Mine.nzZ8 (by with_reducible assumption) | exact Mine.nzA9 (by with_reducible assumption) | exact Mine.nzZ9 (by with_reducible assumption) | exact Mine.nzA10 (by with_reducible assumption) | exact Mine.nzZ10 (by with_reducible assumption) | exact Mine.nzA11 (by with_reducible assumption) | exact Mine.nzZ11 (by with_reducible assumption) | exact Mine.nzA12 (by with_reducible assumption) | exact Mine.nzZ12 (by with_reducible assumption) | exact Mine.nzA13 (by with_reducible assumption) | exact Mine.nzZ13 (by with_reducible assumption) | exact Mine.nzA14 (by with_reducible assumption) | exact Mine.nzZ14 (by with_reducible assumption) | exact Mine.nzA15 (by with_reducible assumption) | exact Mine.nzZ15 (by with_reducible assumption) | exact Mine.nzA16 (by with_reducible assumption) | exact Mine.nzZ16 (by with_reducible assumption))
  | (apply Ne.symm; (first | with_reducible assumption | exact Mine.nzA1 (by with_reducible assumption) | exact Mine.nzA2 (by with_reducible assumption) | exact Mine.nzZ2 (by with_reducible assumption) | exact Mine.nzA3 (by with_reducible assumption) | exact Mine.nzZ3 (by with_reducible assumption) | exact Mine.nzA4 (by with_reducible assumption) | exact Mine.nzZ4 (by with_reducible assumption) | exact Mine.nzA5 (by with_reducible assumption) | exact Mine.nzZ5 (by with_reducible assumption) | exact Mine.nzA6 (by with_reducible assumption) | exact Mine.nzZ6 (by with_reducible assumption) | exact Mine.nzA7 (by with_reducible assumption) | exact Mine.nzZ7 (by with_reducible assumption) | exact Mine.nzA8 (by with_reducible assumption) | exact Mine.nzZ8 (by with_reducible assumption) | exact Mine.nzA9 (by with_reducible assumption) | exact Mine.nzZ9 (by with_reducible assumption) | exact Mine.nzA10 (by with_reducible assumption) | exact Mine.nzZ10 (by with_reducible assumption) | exact Mine.nzA11 (by with_reducible assumption) | exact Mine.nzZ11 (by with_reducible assumption) | exact Mine.nzA12 (by with_reducible assumption) | exact Mine.nzZ12 (by with_reducible assumption) | exact Mine.nzA13 (by with_reducible assumption) | exact Mine.nzZ13 (by with_reducible assumption) | exact Mine.nzA14 (by with_reducible assumption) | exact Mine.nzZ14 (by with_reducible assumption) | exact Mine.nzA15 (by with_reducible assumption) | exact Mine.nzZ15 (by with_reducible assumption) | exact Mine.nzA16 (by with_reducible assumption) | exact Mine.nzZ16 (by with_reducible assumption)))
  | omega))
local macro_rules | `(tactic| k_lt $h:ident) => `(tactic| (replace $h := Mine.allLt1 $h; dsimp only [Mine.AllLt1, Mine.AllLtC] at $h:ident))
open PySem PySem.W PyProof.Rows
namespace Mine
set_option Elab.async false
def armX (x : UInt64) : Int := Flt.toInt Float64.truncOf (Float64.add (Float64.mul x (Float64.ofInt 1048576)) 4602678819172646912)
def armI (r g b : Int) : Int := if r > g ∧ g ≥ b then 0 else if g ≥ r ∧ r > b then 1 else if g > b ∧ b ≥ r then 2 else if b ≥ g ∧ g > r then 3 else if b > r ∧ r ≥ g then 4 else if r ≥ b ∧ b > g then 5 else 6
abbrev armFin (x : UInt64) : Prop := Float64.isFinite (Float64.add (Float64.mul x (Float64.ofInt 1048576)) 4602678819172646912) = true
theorem fin_nan {x : UInt64} (h : Float64.isFinite x = true) : Float64.isNaN x = false := by
  cases h9 : Float64.isNaN x with
  | false => rfl
  | true => exfalso; unfold Float64.isFinite at h; unfold Float64.isNaN at h9; split at h9 <;> simp_all
theorem fin_inf {x : UInt64} (h : Float64.isFinite x = true) : Float64.isInf x = false := by
  cases h9 : Float64.isInf x with
  | false => rfl
  | true => exfalso; unfold Float64.isFinite at h; unfold Float64.isInf at h9; split at h9 <;> simp_all
set_option maxRecDepth 100000 in
set_option maxHeartbeats 8000000 in
theorem arm_spec (w : World) (d : Addr) (r g b : UInt64) (t1 t2 t3 : Tok) (n : Nat) :
    CtrK w 8 80 176 [.ref d] (fun h => h.get? d = some (W.listOf #[.float r t1, .float g t2, .float b t3] n) ∧ armFin r ∧ armFin g ∧ armFin b)
      (RetKV fun t => .int (armI (armX r) (armX g) (armX b)) t) := by
  dsimp only [CtrK, P0, LS, RetKV]
  k_fill
  intro mean mg mb dp un gd cn cs a ccd cl outer A₀ base h₀ L m s Q E B F X T hk hpre hdp hun hret
  obtain ⟨hpre, hf1, hf2, hf3⟩ := hpre
  have hn1 := fin_nan hf1
  have hn2 := fin_nan hf2
  have hn3 := fin_nan hf3
  have hi1 := fin_inf hf1
  have hi2 := fin_inf hf2
  have hi3 := fin_inf hf3
  have hL : s.heap.IsList d #[.float r t1, .float g t2, .float b t3] := ⟨_, hpre, rfl, n, rfl⟩
  refine wpAny_call ?_
  k_dflt (refine' enterP ?k1 ?k2 ?k3 ?k5 ?kA ?kF ?kK ?k6 ?k7 ?k8 ?k9 ?kB ?_ ?c2 ?c3 ?c4 ?c5; (case kA => exact rfl); (case kF => exact rfl); (case kK => assumption); (case k1 => k_asm); (case k2 => k_asm); (case k3 => k_asm); (case k5 => k_asm); (case k6 => k_is); (case k7 => k_is); (case k8 => ktr_room); (case k9 => exact BindsTo.of_eq rfl); (case c5 => decide); (case kB => exact locs rfl); (case c2 => exact rfl); (case c3 => exact rfl); (case c4 => exact rfl); k_whole; intro L' h' F' N' B' X' T'; (try dsimp only); (try k_lift B'); (try k_fold))
  (first | (refine Mine.letF F' ?_; clear F'; intro mz32 F') | skip); (first | (refine Mine.letAE ?_; intro envz32) | skip); (first | (refine Mine.genT ?_; intro tkz32) | skip)
  k_steps
  all_goals (try dsimp only)
  all_goals (
    have hf : ∀ (k : Int) (t : Tok) (h' : Heap) (tk' : Nat), k = armI (armX r) (armX g) (armX b) → Keep s.heap h' → Q (.int k t) { s with heap := h', toks := tk' } := by
      intro k t h' tk' e kp; subst e; exact hret t h' tk' kp
    (with_reducible rename Fr _ _ _ _ => kF)
    refine hf _ _ _ _ ?_ kF.keep
    clear hf hret
    unfold armI armX
    (repeat' split) <;> first | rfl | (exfalso; omega))
end Mine
end
section -- Kread
theorem Mine.wTopOff16 : True := by w_top off; trivial
local macro_rules | `(tactic| walk_at "eval BinOp") => `(tactic| (k_here; k_dflt (refine' Mine.pev_ok ?F ?e ?c ?k ?_; (case F => k_asm); (case e => exact rfl); (case c => (repeat (first | exact trivial | refine And.intro (by mul_fits) ?_))); (case k => rfl); k_whole)))
local macro_rules | `(tactic| walk_at "spliced") => `(tactic| (k_here; k_dflt (refine' Mine.args_ok ?F ?k ?e ?c ?_; (case F => k_asm); (case k => rfl); (case e => exact rfl); (case c => (repeat (first | exact trivial | refine And.intro (by mul_fits) ?_))); k_whole)))
local macro_rules | `(tactic| walk_at "isTrue Compare") => `(tactic| (k_here; k_dflt (refine' Mine.cmp_ok ?F ?e ?c ?k ?n ?_; (case F => k_asm); (case e => exact rfl); (case c => (repeat (first | exact trivial | refine And.intro (by mul_fits) ?_))); (case k => rfl); (case n => rfl); k_whole)))
local macro_rules | `(tactic| walk_at "exec Assign") => `(tactic| (k_here; k_dflt (refine' Mine.assign_ok ?F ?N ?e ?c ?k ?x ?s ?_; (case F => k_asm); (case N => k_asm); (case e => exact rfl); (case c => (repeat (first | exact trivial | refine And.intro (by mul_fits) ?_))); (case k => rfl); (case x => rfl); (case s => rfl); k_whole; intro h' m' F' N'; (try k_sweep))))
local macro_rules | `(tactic| walk_at "exec Return some") => `(tactic| (k_here; k_dflt (refine' Mine.ret_ok ?F ?e ?c ?k ?_; (case F => k_asm); (case e => exact rfl); (case c => (repeat (first | exact trivial | refine And.intro (by mul_fits) ?_))); (case k => rfl); k_whole)))
local macro_rules | `(tactic| walk_at "storeName") => `(tactic| (k_here; k_dflt (refine' Mine.storeY_L ?F ?N ?_ ?a ?b; (case F => k_asm); (case N => k_asm); (case a => rfl); (case b => rfl); k_whole; intro h' m' F' N'; (try k_sweep))))
local macro_rules | `(tactic| k_steps) => `(tactic| repeat' (first | dsimp only | (k_unfold; (try dsimp only)) | (k_end; wrow_close) | walk1 | (dsimp only; walk1) | (leave1; walk_say "STEP leave1"; try dsimp only) | fail "no step"))
local macro_rules | `(tactic| k_ne) => `(tactic| (refine PySem.W.neN ?_; (try dsimp only); first
  | with_reducible assumption
  | ((with_reducible refine Nat.ne_of_lt ?_); (repeat with_reducible refine Mine.nzLT ?_); (first | with_reducible assumption | exact Mine.nzA1 (by with_reducible assumption) | exact Mine.nzA2 (by with_reducible assumption) | exact Mine.nzZ2 (by with_reducible assumption) | exact Mine.nzA3 (by with_reducible assumption) | exact Mine.nzZ3 (by with_reducible assumption) | exact Mine.nzA4 (by with_reducible assumption) | exact Mine.nzZ4 (by with_reducible assumption) | exact Mine.nzA5 (by with_reducible assumption) | exact Mine.nzZ5 (by with_reducible assumption) | exact Mine.nzA6 (by with_reducible assumption) | exact Mine.nzZ6 (by with_reducible assumption) | exact Mine.nzA7 (by with_reducible assumption) | exact Mine.nzZ7 (by with_reducible assumption) | exact Mine.nzA8 (by with_reducible assumption) | exact Mine.nzZ8 (by with_reducible assumption) | exact Mine.nzA9 (by with_reducible assumption) | exact Mine.nzZ9 (by with_reducible assumption) | exact Mine.nzA10 (by with_reducible assumption) | exact Mine.nzZ10 (by with_reducible assumption) | exact Mine.nzA11 (by with_reducible assumption) | exact Mine.nzZ11 (by with_reducible assumption) | exact Mine.nzA12 (by with_reducible assumption) | exact Mine.nzZ12 (by with_reducible assumption) | exact Mine.nzA13 (by with_reducible assumption) | exact Mine.nzZ13 (by with_reducible assumption) | exact Mine.nzA14 (by with_reducible assumption) | exact Mine.nzZ14 (by with_reducible assumption) | exact Mine.nzA15 (by with_reducible assumption) | exact Mine.nzZ15 (by with_reducible assumption) | exact Mine.nzA16 (by with_reducible assumption) | exact Mine.nzZ16 (by with_reducible assumption)))
  | ((with_reducible refine Nat.ne_of_gt ?_); (repeat with_reducible refine Mine.nzLT ?_); (first | with_reducible assumption | exact Mine.nzA1 (by with_reducible assumption) | exact Mine.nzA2 (by with_reducible assumption) | exact Mine.nzZ2 (by with_reducible assumption) | exact Mine.nzA3 (by with_reducible assumption) | exact Mine.nzZ3 (by with_reducible assumption) | exact Mine.nzA4 (by with_reducible assumption) | exact Mine.nzZ4 (by with_reducible assumption) | exact Mine.nzA5 (by with_reducible assumption) | exact Mine.nzZ5 (by with_reducible assumption) | exact Mine.nzA6 (by with_reducible assumption) | exact Mine.nzZ6 (by with_reducible assumption) | exact Mine.nzA7 (by with_reducible assumption) | exact Mine.nzZ7 (by with_reducible assumption) | exact Mine.nzA8 (by with_reducible assumption) | exact Mine.nzZ8 (by with_reducible assumption) | exact Mine.nzA9 (by with_reducible assumption) | exact Mine.nzZ9 (by with_reducible assumption) | exact Mine.nzA10 (by with_reducible assumption) | exact Mine.nzZ10 (by with_reducible assumption) | exact Mine.nzA11 (by with_reducible assumption) | exact Mine.nzZ11 (by with_reducible assumption) | exact Mine.nzA12 (by with_reducible assumption) | exact Mine.nzZ12 (by with_reducible assumption) | exact Mine.nzA13 (by with_reducible assumption) | exact Mine.nzZ13 (by with_reducible assumption) | exact Mine.nzA14 (by with_reducible assumption) | exact Mine.nzZ14 (by with_reducible assumption) | exact Mine.nzA15 (by with_reducible assumption) | exact Mine.nzZ15 (by with_reducible assumption) | exact Mine.nzA16 (by with_reducible assumption) | exact Mine.nzZ16 (by with_reducible assumption)))
  | ((repeat with_reducible refine Mine.nzSS ?_); (first | with_reducible refine Mine.nzS0 ?_ | with_reducible refine Mine.nz0S ?_); (repeat (first | with_reducible exact Nat.le_refl _ | with_reducible refine Mine.nzLS ?_)); done)
  | (first | with_reducible assumption | exact Mine.nzA1 (by with_reducible assumption) | exact Mine.nzA2 (by with_reducible assumption) | exact Mine.nzZ2 (by with_reducible assumption) | exact Mine.nzA3 (by with_reducible assumption) | exact Mine.nzZ3 (by with_reducible assumption) | exact Mine.nzA4 (by with_reducible assumption) | exact Mine.nzZ4 (by with_reducible assumption) | exact Mine.nzA5 (by with_reducible assumption) | exact Mine.nzZ5 (by with_reducible assumption) | exact Mine.nzA6 (by with_reducible assumption) | exact Mine.nzZ6 (by with_reducible assumption) | exact Mine.nzA7 (by with_reducible assumption) | exact Mine.nzZ7 (by with_reducible assumption) | exact Mine.nzA8 (by with_reducible assumption) | exact Mine.nzZ8 (by with_reducible assumption) | exact Mine.nzA9 (by with_reducible assumption) | exact Mine.nzZ9 (by with_reducible assumption) | exact Mine.nzA10 (by with_reducible assumption) | exact Mine.nzZ10 (by with_reducible assumption) | exact Mine.nzA11 (by with_reducible assumption) | exact Mine.nzZ11 (by with_reducible assumption) | exact Mine.nzA12 (by with_reducible assumption) | exact Mine.nzZ12 (by with_reducible assumption) | exact Mine.nzA13 (by with_reducible assumption) | exact Mine.nzZ13 (by with_reducible assumption) | exact Mine.nzA14 (by with_reducible assumption) | exact Mine.nzZ14 (by with_reducible assumption) | exact Mine.nzA15 (by with_reducible assumption) | exact Mine.nzZ15 (by with_reducible assumption) | exact Mine.nzA16 (by with_reducible assumption) | exact Mine.nzZ16 (by with_reducible assumption))
  | (apply Ne.symm; (first | with_reducible assumption | exact Mine.nzA1 (by with_reducible assumption) | exact Mine.nzA2 (by with_reducible assumption) | exact Mine.nzZ2 (by with_reducible assumption) | exact Mine.nzA3 (by with_reducible assumption) | exact Mine.nzZ3 (by with_reducible assumption) | exact Mine.nzA4 (by with_reducible assumption) | exact Mine.nzZ4 (by with_reducible assumption) | exact Mine.nzA5 (by with_reducible assumption) | exact Mine.nzZ5 (by with_reducible assumption) | exact Mine.nzA6 (by with_reducible assumption) | exact Mine.nzZ6 (by with_reducible assumption) | exact Mine.nzA7 (by with_reducible assumption) | exact Mine.nzZ7 (by with_reducible assumption) | exact Mine.nzA8 (by with_reducible assumption) | exact Mine.nzZ8 (by with_reducible assumption) | exact Mine.nzA9 (by with_reducible assumption) | exact Mine.nzZ9 (by with_reducible assumption) | exact Mine.nzA10 (by with_reducible assumption) | exact Mine.nzZ10 (by with_reducible assumption) | exact Mine.nzA11 (by with_reducible assumption) | exact Mine.nzZ11 (by with_reducible assumption) | exact Mine.nzA12 (by with_reducible assumption) | exact Mine.nzZ12 (by with_reducible assumption) | exact Mine.nzA13 (by with_reducible assumption) | exact Mine.nzZ13 (by with_reducible assumption) | exact Mine.nzA14 (by with_reducible assumption) | exact Mine.nzZ14 (by with_reducible assumption) | exact Mine.nzA15 (by with_reducible assumption) | exact Mine.nzZ15 (by with_reducible assumption) | exact Mine.nzA16 (by with_reducible assumption) | exact Mine.nzZ16 (by with_reducible assumption)))
  | omega))
local macro_rules | `(tactic| k_lt $h:ident) => `(tactic| (replace $h := Mine.allLt1 $h; dsimp only [Mine.AllLt1, Mine.AllLtC] at $h:ident))
open PySem PySem.W PyProof.Rows
namespace Mine
set_option Elab.async false
abbrev rdH (r g b : UInt64) : UInt64 := rgbH (max3F r g b) (min3F r g b) r g b
abbrev rdL (r g b : UInt64) : UInt64 := rgbL (max3F r g b) (min3F r g b)
abbrev rdS (r g b : UInt64) : UInt64 := rgbS (max3F r g b) (min3F r g b)
structure ReadOk (r g b : UInt64) (p t sh li : Int) : Prop where
  rgb : (eqF (min3F r g b) (max3F r g b) = false ∧ Float64.isZero (Float64.sub (max3F r g b) (min3F r g b)) = false ∧ Float64.isZero (Float64.add (max3F r g b) (min3F r g b)) = false ∧ Float64.isZero (Float64.sub (Float64.sub 4611686018427387904 (max3F r g b)) (min3F r g b)) = false)
  p0 : -128 ≤ p ∧ p < 128 ∧ 0 < t ∧ t < 128
  s0 : 0 < sh ∧ sh < 9 ∧ 0 < li ∧ li < 9
  nearL : nearB (Float64.mul (rdL r g b) (Float64.ofInt 8)) li = true
  nearS : nearB (Float64.mul (rdS r g b) (Float64.ofInt 8)) sh = true
  fin : Float64.isFinite (Float64.add (Float64.mul (rdH r g b) (Float64.ofInt t)) 4602678819172646912) = true
  int : (Flt.toInt Float64.truncOf (Float64.add (Float64.mul (rdH r g b) (Float64.ofInt t)) 4602678819172646912)).fmod t = p % t
  near : nearB (Float64.mul (rdH r g b) (Float64.ofInt t)) (p % t) = true ∨ nearB (Float64.mul (rdH r g b) (Float64.ofInt t)) (p % t + t) = true
local macro_rules | `(tactic| walk_at "call ref") => `(tactic| (k_here; (with_reducible show wpAny _ _ (call (Value.ref 28) _) _ _ _); k_dflt (refine' rgb_spec _ _ _ _ _ _ _ _ _ _ _ _ _ _ _ _ _ _ _ _ _ _ _ _ _ _ _ _ ?k1 ?k2 ?k3 ?k4 ?k5 ?k6 ?k7 ?k8 ?k9 ?_; (case k1 => k_asm); (case k2 => k_asm); (case k3 => k_asm); (case k4 => k_asm); (case k5 => k_asm); (case k6 => first | exact rfl | assumption); (case k7 => assumption); (case k8 => ktr_room); (case k9 => ktr_units); k_whole); intro d' ta' tb' tc' h' tk' F' N'; (try dsimp only); (try k_fold)))
local macro_rules | `(tactic| walk_at "call ref") => `(tactic| (k_here; (with_reducible show wpAny _ _ (call (Value.ref 164) _) _ _ _); k_dflt (refine' near_spec _ _ _ _ _ _ _ _ _ _ _ _ _ _ _ _ _ _ _ _ _ _ _ _ _ _ ?k1 ?k2 ?k3 ?k4 ?k5 ?k6 ?k7 ?k8 ?k9 ?_; (case k1 => k_asm); (case k2 => k_asm); (case k3 => k_asm); (case k4 => k_asm); (case k5 => k_asm); (case k6 => first | exact rfl | assumption); (case k7 => assumption); (case k8 => ktr_room); (case k9 => ktr_units); k_whole); intro t' h' tk' F' N'; (try dsimp only); (try k_fold)))
set_option maxRecDepth 100000 in
set_option maxHeartbeats 8000000 in
set_option pp.deepTerms false in
set_option pp.maxSteps 6000 in
theorem read_T0 (w : World) (dl : Addr) (n : Nat) (r g b : UInt64) (p t sh li : Int) (t1 t2 t3 u1 u2 u3 u4 : Tok) :
    CtrT w 40 400 214 [(65, tabObj #[]), (72, tabObj #[])] [.ref dl, .int p u1, .int t u2, .int sh u3, .int li u4] (fun h => h.get? dl = some (W.listOf #[.float r t1, .float g t2, .float b t3] n) ∧ ReadOk r g b p t sh li)
      (fun _ s Q => ∀ (tt : Tok) (hz : Heap) (tz : Nat), KeepBut [65, 72] s.heap hz → TF0 s.heap hz → Q (.int (p % t) tt) { s with heap := hz, toks := tz }) := by
  dsimp only [CtrT, P0, LS]
  k_fill
  intro mean mg mb dp un gd cn cs a ccd cl outer A₀ base h₀ L m s Q E B F X N T hk C1 C2 hpre hdp hun hret
  obtain ⟨hL0, ⟨hR, hp0, hs0, hnL, hnS, hfin, hint, hnear⟩⟩ := hpre
  have hn1 := fin_nan hfin
  have hi1 := fin_inf hfin
  have b1 := (N _ (.head _)).1
  have b2 := (N _ (.tail _ (.head _))).1
  have hdl : dl ∉ ([65, 72] : List Addr) := notIn2 (by rintro rfl; rw [b1] at hL0; cases hL0) (by rintro rfl; rw [b2] at hL0; cases hL0)
  have hL1 : (hideAll s.heap [65, 72]).IsList dl #[.float r t1, .float g t2, .float b t3] := ⟨_, hideAll_get _ hL0 hdl, rfl, n, rfl⟩
  refine wpAny_call ?_
  k_dflt (refine' enterT ?k1 ?k2 ?k3 ?k4 ?k5 ?kA ?kF ?kK ?k6 ?k7 ?k8 ?k9 ?kB ?kC1 ?kC2 ?_ ?c2 ?c3 ?c4 ?c5; (case kA => exact rfl); (case kF => exact rfl); (case kK => assumption); (case k1 => k_asm); (case k2 => k_asm); (case k3 => k_asm); (case k4 => k_asm); (case k5 => k_asm); (case k6 => k_is); (case k7 => k_is); (case k8 => ktr_room); (case k9 => exact BindsTo.of_eq rfl); (case c5 => decide); (case kB => exact locs rfl); (case kC1 => assumption); (case kC2 => assumption); (case c2 => exact rfl); (case c3 => exact rfl); (case c4 => exact rfl); k_whole)
  have hg0 : hideAll s.heap (List.map (·.1) [(65, tabObj #[]), (72, tabObj #[])]) = hideAll s.heap [65, 72] := rfl
  rw [hg0]
  generalize hg : hideAll s.heap [65, 72] = g' at *
  clear C1 C2 N F B X T hg0
  intro L' h' F' N' B' X' T' C1 C2 l1
  (try k_lt l1)
  (try dsimp only)
  (try k_lift B')
  (try k_fold)
  w_on
  k_steps
  (with_reducible rename Fr _ _ _ _ => zF)
  (with_reducible rename News _ _ _ _ => zN)
  have zn : News g' L' _ [(65, tabObj #[]), (72, tabObj #[])] := cb_drop zN (by kcj_all)
  have kp := keep_two hg zF.keep b1 b2 (zn _ (.head _)).1 (zn _ (.tail _ (.head _))).1
  k_here
  k_dflt (refine' im_T0 w p t _ _ _ _ _ _ _ _ _ _ _ _ _ _ _ _ _ _ _ _ _ _ ?k1 ?k2 ?k3 ?k4 ?k5 ?k6 ?kC1 ?kC2 ?k8 ?k9 ?k10 ?_; (case k1 => k_asm); (case k2 => k_asm); (case k3 => k_asm); (case k4 => exact zn); (case k5 => k_asm); (case k6 => exact rfl); (case kC1 => assumption); (case kC2 => assumption); (case k8 => exact hp0); (case k9 => ktr_room); (case k10 => ktr_units); k_whole)
  intro q rr d ta tb hz tz hqr kb t0 dn dg
  obtain ⟨rfl, rfl⟩ := hqr
  obtain ⟨c1, oc1, vs1, tq1, c2, oc2, vs2, tq2, ⟨tn1, tn2, tn3, tn4, tg1, tg2, to1, td1, tv1, to2, td2, tv2⟩, n1, n2⟩ := t0
  have hb8 := ledger2 zn
  have F8 := frBut zF zn kb hb8
  have N8 : News g' L' hz [(d, tup2I (p / t) (p % t) ta tb), (c1, oc1), (c2, oc2), (65, tab65 c1), (72, tab72 c2)] := newsBut zF zn kb hb8 _ fun p hp => by
    simp only [List.mem_cons, List.not_mem_nil, or_false] at hp
    rcases hp with rfl | rfl | rfl | rfl | rfl
    · exact .inr (.inr ⟨dn, dg⟩)
    · exact .inr (.inr ⟨n1, to1⟩)
    · exact .inr (.inr ⟨n2, to2⟩)
    · exact .inr (.inl ⟨.head _, tg1⟩)
    · exact .inr (.inl ⟨.tail _ (.head _), tg2⟩)
  clear zF zN zn
  have hr0 := Int.emod_nonneg p (Int.ne_of_gt hp0.2.2.1)
  have hr1 := Int.emod_lt_of_pos p hp0.2.2.1
  have hsum : p / t * t + p % t = p := by have := Int.mul_ediv_add_emod p t; rw [Int.mul_comm]; exact this
  generalize hrr : p % t = rs at *
  have hA1 : li.natAbs < 2 ^ 40 := by omega
  have hA2 : sh.natAbs < 2 ^ 40 := by omega
  have hA3 : rs.natAbs < 2 ^ 40 := by omega
  have hA4 : (rs + t).natAbs < 2 ^ 40 := by omega
  (try dsimp only)
  k_steps
  · exact absurd hsum (by assumption)
  · exact absurd hint (by assumption)
  · (with_reducible rename Fr _ _ _ _ => zF)
    (with_reducible rename News _ _ _ _ => zN)
    have z2 := (zN _ (.tail _ (.head _))).1
    have z3 := (zN _ (.tail _ (.tail _ (.head _)))).1
    have z4 := (zN _ (.tail _ (.tail _ (.tail _ (.head _))))).1
    have z5 := (zN _ (.tail _ (.tail _ (.tail _ (.tail _ (.head _)))))).1
    exact hret _ _ _ (keepBut_hide hg zF.keep) ⟨_, _, _, _, _, _, _, _, ⟨tn1, tn2, tn3, tn4, z4, z5, z2, td1, tv1, z3, td2, tv2⟩, none_keep kp n1, none_keep kp n2⟩
  · (with_reducible rename Fr _ _ _ _ => zF)
    (with_reducible rename News _ _ _ _ => zN)
    have z2 := (zN _ (.tail _ (.head _))).1
    have z3 := (zN _ (.tail _ (.tail _ (.head _)))).1
    have z4 := (zN _ (.tail _ (.tail _ (.tail _ (.head _))))).1
    have z5 := (zN _ (.tail _ (.tail _ (.tail _ (.tail _ (.head _)))))).1
    exact hret _ _ _ (keepBut_hide hg zF.keep) ⟨_, _, _, _, _, _, _, _, ⟨tn1, tn2, tn3, tn4, z4, z5, z2, td1, tv1, z3, td2, tv2⟩, none_keep kp n1, none_keep kp n2⟩
  · rcases hnear with h | h
    · have e : nearB (Float64.mul (rdH r g b) (Float64.ofInt t)) rs = false := by assumption
      rw [e] at h; cases h
    · have e : nearB (Float64.mul (rdH r g b) (Float64.ofInt t)) (rs + t) = false := by assumption
      rw [e] at h; cases h
end Mine
end
section -- Kread1
theorem Mine.wTopOff17 : True := by w_top off; trivial
local macro_rules | `(tactic| walk_at "no such line") => `(tactic| fail)
local macro_rules | `(tactic| walk_at "no such line") => `(tactic| fail)
local macro_rules | `(tactic| walk_at "no such line") => `(tactic| fail)
local macro_rules | `(tactic| walk_at "no such line") => `(tactic| fail)
local macro_rules | `(tactic| walk_at "no such line") => `(tactic| fail)
local macro_rules | `(tactic| walk_at "no such line") => `(tactic| fail)
local macro_rules | `(tactic| walk_at "no such line") => `(tactic| fail)
local macro_rules | `(tactic| walk_at "no such line") => `(tactic| fail)
local macro_rules | `(tactic| walk_at "no such line") => `(tactic| fail)
local macro_rules | `(tactic| walk_at "no such line") => `(tactic| fail)
local macro_rules | `(tactic| walk_at "no such line") => `(tactic| fail)
local macro_rules | `(tactic| walk_at "no such line") => `(tactic| fail)
local macro_rules | `(tactic| walk_at "no such line") => `(tactic| fail)
local macro_rules | `(tactic| walk_at "no such line") => `(tactic| fail)
local macro_rules | `(tactic| walk_at "no such line") => `(tactic| fail)
local macro_rules | `(tactic| walk_at "no such line") => `(tactic| fail)
local macro_rules | `(tactic| walk_at "no such line") => `(tactic| fail)
local macro_rules | `(tactic| walk_at "no such line") => `(tactic| fail)
local macro_rules | `(tactic| walk_at "no such line") => `(tactic| fail)
local macro_rules | `(tactic| walk_at "no such line") => `(tactic| fail)
local macro_rules | `(tactic| walk_at "no such line") => `(tactic| fail)
local macro_rules | `(tactic| walk_at "no such line") => `(tactic| fail)
local macro_rules | `(tactic| walk_at "no such line") => `(tactic| fail)
local macro_rules | `(tactic| walk_at "no such line") => `(tactic| fail)
local macro_rules | `(tactic| walk_at "no such line") => `(tactic| fail)
local macro_rules | `(tactic| walk_at "eval BinOp") => `(tactic| (k_here; k_dflt (refine' Mine.pev_ok ?F ?e ?c ?k ?_; (case F => k_asm); (case e => exact rfl); (case c => (repeat (first | exact trivial | refine And.intro (by mul_fits) ?_))); (case k => rfl); k_whole)))
local macro_rules | `(tactic| walk_at "spliced") => `(tactic| (k_here; k_dflt (refine' Mine.args_ok ?F ?k ?e ?c ?_; (case F => k_asm); (case k => rfl); (case e => exact rfl); (case c => (repeat (first | exact trivial | refine And.intro (by mul_fits) ?_))); k_whole)))
local macro_rules | `(tactic| walk_at "isTrue Compare") => `(tactic| (k_here; k_dflt (refine' Mine.cmp_ok ?F ?e ?c ?k ?n ?_; (case F => k_asm); (case e => exact rfl); (case c => (repeat (first | exact trivial | refine And.intro (by mul_fits) ?_))); (case k => rfl); (case n => rfl); k_whole)))
local macro_rules | `(tactic| walk_at "exec Assign") => `(tactic| (k_here; k_dflt (refine' Mine.assign_ok ?F ?N ?e ?c ?k ?x ?s ?_; (case F => k_asm); (case N => k_asm); (case e => exact rfl); (case c => (repeat (first | exact trivial | refine And.intro (by mul_fits) ?_))); (case k => rfl); (case x => rfl); (case s => rfl); k_whole; intro h' m' F' N'; (try k_sweep))))
local macro_rules | `(tactic| walk_at "exec Return some") => `(tactic| (k_here; k_dflt (refine' Mine.ret_ok ?F ?e ?c ?k ?_; (case F => k_asm); (case e => exact rfl); (case c => (repeat (first | exact trivial | refine And.intro (by mul_fits) ?_))); (case k => rfl); k_whole)))
local macro_rules | `(tactic| walk_at "storeName") => `(tactic| (k_here; k_dflt (refine' Mine.storeY_L ?F ?N ?_ ?a ?b; (case F => k_asm); (case N => k_asm); (case a => rfl); (case b => rfl); k_whole; intro h' m' F' N'; (try k_sweep))))
local macro_rules | `(tactic| k_steps) => `(tactic| repeat' (first | dsimp only | (k_unfold; (try dsimp only)) | (k_end; wrow_close) | walk1 | (dsimp only; walk1) | (leave1; walk_say "STEP leave1"; try dsimp only) | fail "no step"))
local macro_rules | `(tactic| k_ne) => `(tactic| (refine PySem.W.neN ?_; (try dsimp only); first
  | with_reducible assumption
  | ((with_reducible refine Nat.ne_of_lt ?_); (repeat with_reducible refine Mine.nzLT ?_); (first | with_reducible assumption | exact Mine.nzA1 (by with_reducible assumption) | exact Mine.nzA2 (by with_reducible assumption) | exact Mine.nzZ2 (by with_reducible assumption) | exact Mine.nzA3 (by with_reducible assumption) | exact Mine.nzZ3 (by with_reducible assumption) | exact Mine.nzA4 (by with_reducible assumption) | exact Mine.nzZ4 (by with_reducible assumption) | exact Mine.nzA5 (by with_reducible assumption) | exact Mine.nzZ5 (by with_reducible assumption) | exact Mine.nzA6 (by with_reducible assumption) | exact Mine.nzZ6 (by with_reducible assumption) | exact Mine.nzA7 (by with_reducible assumption) | exact Mine.nzZ7 (by with_reducible assumption) | exact Mine.nzA8 (by with_reducible assumption) | exact Mine.nzZ8 (by with_reducible assumption) | exact Mine.nzA9 (by with_reducible assumption) | exact Mine.nzZ9 (by with_reducible assumption) | exact Mine.nzA10 (by with_reducible assumption) | exact Mine.nzZ10 (by with_reducible assumption) | exact Mine.nzA11 (by with_reducible assumption) | exact Mine.nzZ11 (by with_reducible assumption) | exact Mine.nzA12 (by with_reducible assumption) | exact Mine.nzZ12 (by with_reducible assumption) | exact Mine.nzA13 (by with_reducible assumption) | exact Mine.nzZ13 (by with_reducible assumption) | exact Mine.nzA14 (by with_reducible assumption) | exact Mine.nzZ14 (by with_reducible assumption) | exact Mine.nzA15 (by with_reducible assumption) | exact Mine.nzZ15 (by with_reducible assumption) | exact Mine.nzA16 (by with_reducible assumption) | exact Mine.nzZ16 (by with_reducible assumption)))
  | ((with_reducible refine Nat.ne_of_gt ?_); (repeat with_reducible refine Mine.nzLT ?_); (first | with_reducible assumption | exact Mine.nzA1 (by with_reducible assumption) | exact Mine.nzA2 (by with_reducible assumption) | exact Mine.nzZ2 (by with_reducible assumption) | exact Mine.nzA3 (by with_reducible assumption) | exact Mine.nzZ3 (by with_reducible assumption) | exact Mine.nzA4 (by with_reducible assumption) | exact Mine.nzZ4 (by with_reducible assumption) | exact Mine.nzA5 (by with_reducible assumption) | exact Mine.nzZ5 (by with_reducible assumption) | exact Mine.nzA6 (by with_reducible assumption) | exact Mine.nzZ6 (by with_reducible assumption) | exact Mine.nzA7 (by with_reducible assumption) | exact Mine.nzZ7 (by with_reducible assumption) | exact Mine.nzA8 (by with_reducible assumption) | exact Mine.nzZ8 (by with_reducible assumption) | exact Mine.nzA9 (by with_reducible assumption) | exact Mine.nzZ9 (by with_reducible assumption) | exact Mine.nzA10 (by with_reducible assumption) | exact Mine.nzZ10 (by with_reducible assumption) | exact Mine.nzA11 (by with_reducible assumption) | exact Mine.nzZ11 (by with_reducible assumption) | exact Mine.nzA12 (by with_reducible assumption) | exact Mine.nzZ12 (by with_reducible assumption) | exact Mine.nzA13 (by with_reducible assumption) | exact Mine.nzZ13 (by with_reducible assumption) | exact Mine.nzA14 (by with_reducible assumption) | exact Mine.nzZ14 (by with_reducible assumption) | exact Mine.nzA15 (by with_reducible assumption) | exact Mine.nzZ15 (by with_reducible assumption) | exact Mine.nzA16 (by with_reducible assumption) | exact Mine.nzZ16 (by with_reducible assumption)))
  | ((repeat with_reducible refine Mine.nzSS ?_); (first | with_reducible refine Mine.nzS0 ?_ | with_reducible refine Mine.nz0S ?_); (repeat (first | with_reducible exact Nat.le_refl _ | with_reducible refine Mine.nzLS ?_)); done)
  | (first | with_reducible assumption | exact Mine.nzA1 (by with_reducible assumption) | exact Mine.nzA2 (by with_reducible assumption) | exact Mine.nzZ2 (by with_reducible assumption) | exact Mine.nzA3 (by with_reducible assumption) | exact Mine.nzZ3 (by with_reducible assumption) | exact Mine.nzA4 (by with_reducible assumption) | exact Mine.nzZ4 (by with_reducible assumption) | exact Mine.nzA5 (by with_reducible assumption) | exact Mine.nzZ5 (by with_reducible assumption) | exact Mine.nzA6 (by with_reducible assumption) | exact Mine.nzZ6 (by with_reducible assumption) | exact Mine.nzA7 (by with_reducible assumption) | exact Mine.nzZ7 (by with_reducible assumption) | exact Mine.nzA8 (by with_reducible assumption) | exact Mine.nzZ8 (by with_reducible assumption) | exact Mine.nzA9 (by with_reducible assumption) | exact Mine.nzZ9 (by with_reducible assumption) | exact Mine.nzA10 (by with_reducible assumption) | exact Mine.nzZ10 (by with_reducible assumption) | exact Mine.nzA11 (by with_reducible assumption) | exact Mine.nzZ11 (by with_reducible assumption) | exact Mine.nzA12 (by with_reducible assumption) | exact Mine.nzZ12 (by with_reducible assumption) | exact Mine.nzA13 (by with_reducible assumption) | exact Mine.nzZ13 (by with_reducible assumption) | exact Mine.nzA14 (by with_reducible assumption) | exact Mine.nzZ14 (by with_reducible assumption) | exact Mine.nzA15 (by with_reducible assumption) | exact Mine.nzZ15 (by with_reducible assumption) | exact Mine.nzA16 (by with_reducible assumption) | exact Mine.nzZ16 (by with_reducible assumption))
  | (apply Ne.symm; (first | with_reducible assumption | exact Mine.nzA1 (by with_reducible assumption) | exact Mine.nzA2 (by with_reducible assumption) | exact Mine.nzZ2 (by with_reducible assumption) | exact Mine.nzA3 (by with_reducible assumption) | exact Mine.nzZ3 (by with_reducible assumption) | exact Mine.nzA4 (by with_reducible assumption) | exact Mine.nzZ4 (by with_reducible assumption) | exact Mine.nzA5 (by with_reducible assumption) | exact Mine.nzZ5 (by with_reducible assumption) | exact Mine.nzA6 (by with_reducible assumption) | exact Mine.nzZ6 (by with_reducible assumption) | exact Mine.nzA7 (by with_reducible assumption) | exact Mine.nzZ7 (by with_reducible assumption) | exact Mine.nzA8 (by with_reducible assumption) | exact Mine.nzZ8 (by with_reducible assumption) | exact Mine.nzA9 (by with_reducible assumption) | exact Mine.nzZ9 (by with_reducible assumption) | exact Mine.nzA10 (by with_reducible assumption) | exact Mine.nzZ10 (by with_reducible assumption) | exact Mine.nzA11 (by with_reducible assumption) | exact Mine.nzZ11 (by with_reducible assumption) | exact Mine.nzA12 (by with_reducible assumption) | exact Mine.nzZ12 (by with_reducible assumption) | exact Mine.nzA13 (by with_reducible assumption) | exact Mine.nzZ13 (by with_reducible assumption) | exact Mine.nzA14 (by with_reducible assumption) | exact Mine.nzZ14 (by with_reducible assumption) | exact Mine.nzA15 (by with_reducible assumption) | exact Mine.nzZ15 (by with_reducible assumption) | exact Mine.nzA16 (by with_reducible assumption) | exact Mine.nzZ16 (by with_reducible assumption)))
  | omega))
local macro_rules | `(tactic| k_lt $h:ident) => `(tactic| (replace $h := Mine.allLt1 $h; dsimp only [Mine.AllLt1, Mine.AllLtC] at $h:ident))
open PySem PySem.W PyProof.Rows
namespace Mine
set_option Elab.async false
local macro_rules | `(tactic| walk_at "call ref") => `(tactic| (k_here; (with_reducible show wpAny _ _ (call (Value.ref 28) _) _ _ _); k_dflt (refine' rgb_spec _ _ _ _ _ _ _ _ _ _ _ _ _ _ _ _ _ _ _ _ _ _ _ _ _ _ _ _ ?k1 ?k2 ?k3 ?k4 ?k5 ?k6 ?k7 ?k8 ?k9 ?_; (case k1 => k_asm); (case k2 => k_asm); (case k3 => k_asm); (case k4 => k_asm); (case k5 => k_asm); (case k6 => first | exact rfl | assumption); (case k7 => assumption); (case k8 => ktr_room); (case k9 => ktr_units); k_whole); intro d' ta' tb' tc' h' tk' F' N'; (try dsimp only); (try k_fold)))
local macro_rules | `(tactic| walk_at "call ref") => `(tactic| (k_here; (with_reducible show wpAny _ _ (call (Value.ref 164) _) _ _ _); k_dflt (refine' near_spec _ _ _ _ _ _ _ _ _ _ _ _ _ _ _ _ _ _ _ _ _ _ _ _ _ _ ?k1 ?k2 ?k3 ?k4 ?k5 ?k6 ?k7 ?k8 ?k9 ?_; (case k1 => k_asm); (case k2 => k_asm); (case k3 => k_asm); (case k4 => k_asm); (case k5 => k_asm); (case k6 => first | exact rfl | assumption); (case k7 => assumption); (case k8 => ktr_room); (case k9 => ktr_units); k_whole); intro t' h' tk' F' N'; (try dsimp only); (try k_fold)))
set_option maxRecDepth 100000 in
set_option maxHeartbeats 8000000 in
set_option pp.deepTerms false in
set_option pp.maxSteps 6000 in
theorem read_T1 (w : World) (c1 : Addr) (oc1 : Obj) (vs1 : Array Value) (tq1 : Tok) (c2 : Addr) (oc2 : Obj) (vs2 : Array Value) (tq2 : Tok) (dl : Addr) (n : Nat) (r g b : UInt64) (p t sh li : Int) (t1 t2 t3 u1 u2 u3 u4 : Tok) :
    CtrT w 40 400 214 [(65, tab65 c1), (72, tab72 c2)] [.ref dl, .int p u1, .int t u2, .int sh u3, .int li u4] (fun h => TFa h c1 oc1 vs1 tq1 c2 oc2 vs2 tq2 ∧ h.get? dl = some (W.listOf #[.float r t1, .float g t2, .float b t3] n) ∧ ReadOk r g b p t sh li)
      (fun _ s Q => ∀ (tt : Tok) (hz : Heap) (tz : Nat), Keep s.heap hz → Q (.int (p % t) tt) { s with heap := hz, toks := tz }) := by
  dsimp only [CtrT, P0, LS]
  k_fill
  intro mean mg mb dp un gd cn cs a ccd cl outer A₀ base h₀ L m s Q E B F X N T hk C1 C2 hpre hdp hun hret
  obtain ⟨hTF, hL0, ⟨hR, hp0, hs0, hnL, hnS, hfin, hint, hnear⟩⟩ := hpre
  have hn1 := fin_nan hfin
  have hi1 := fin_inf hfin
  have b1 := (N _ (.head _)).1
  have b2 := (N _ (.tail _ (.head _))).1
  have hdl : dl ∉ ([65, 72] : List Addr) := notIn2 (by rintro rfl; rw [b1] at hL0; cases hL0) (by rintro rfl; rw [b2] at hL0; cases hL0)
  have hL1 : (hideAll s.heap [65, 72]).IsList dl #[.float r t1, .float g t2, .float b t3] := ⟨_, hideAll_get _ hL0 hdl, rfl, n, rfl⟩
  refine wpAny_call ?_
  k_dflt (refine' enterT ?k1 ?k2 ?k3 ?k4 ?k5 ?kA ?kF ?kK ?k6 ?k7 ?k8 ?k9 ?kB ?kC1 ?kC2 ?_ ?c2 ?c3 ?c4 ?c5; (case kA => exact rfl); (case kF => exact rfl); (case kK => assumption); (case k1 => k_asm); (case k2 => k_asm); (case k3 => k_asm); (case k4 => k_asm); (case k5 => k_asm); (case k6 => k_is); (case k7 => k_is); (case k8 => ktr_room); (case k9 => exact BindsTo.of_eq rfl); (case c5 => decide); (case kB => exact locs rfl); (case kC1 => assumption); (case kC2 => assumption); (case c2 => exact rfl); (case c3 => exact rfl); (case c4 => exact rfl); k_whole)
  have hg0 : hideAll s.heap (List.map (·.1) [(65, tab65 c1), (72, tab72 c2)]) = hideAll s.heap [65, 72] := rfl
  rw [hg0]
  generalize hg : hideAll s.heap [65, 72] = g' at *
  clear C1 C2 N F B X T hg0
  intro L' h' F' N' B' X' T' C1 C2 l1
  (try k_lt l1)
  (try dsimp only)
  (try k_lift B')
  (try k_fold)
  w_on
  k_steps
  (with_reducible rename Fr _ _ _ _ => zF)
  (with_reducible rename News _ _ _ _ => zN)
  have zn : News g' L' _ [(65, tab65 c1), (72, tab72 c2)] := cb_drop zN (by kcj_all)
  have kp := keep_two hg zF.keep b1 b2 (zn _ (.head _)).1 (zn _ (.tail _ (.head _))).1
  k_here
  k_dflt (refine' im_T1 w c1 oc1 vs1 tq1 c2 oc2 vs2 tq2 p t _ _ _ _ _ _ _ _ _ _ _ _ _ _ _ _ _ _ _ _ _ _ ?k1 ?k2 ?k3 ?k4 ?k5 ?k6 ?kC1 ?kC2 ?k8 ?k9 ?k10 ?_; (case k1 => k_asm); (case k2 => k_asm); (case k3 => k_asm); (case k4 => exact zn); (case k5 => k_asm); (case k6 => exact rfl); (case kC1 => assumption); (case kC2 => assumption); (case k8 => exact ⟨hTF.keep kp, hp0⟩); (case k9 => ktr_room); (case k10 => ktr_units); k_whole)
  intro q rr d ta tb hz tz hqr kb dn dg
  obtain ⟨rfl, rfl⟩ := hqr
  have F8 := frKeep zF kb
  have N8 : News g' L' hz [(d, tup2I (p / t) (p % t) ta tb), (65, tab65 c1), (72, tab72 c2)] := newsKeep1 zF zn kb dn dg
  clear zF zN zn
  have hr0 := Int.emod_nonneg p (Int.ne_of_gt hp0.2.2.1)
  have hr1 := Int.emod_lt_of_pos p hp0.2.2.1
  have hsum : p / t * t + p % t = p := by have := Int.mul_ediv_add_emod p t; rw [Int.mul_comm]; exact this
  generalize hrr : p % t = rs at *
  have hA1 : li.natAbs < 2 ^ 40 := by omega
  have hA2 : sh.natAbs < 2 ^ 40 := by omega
  have hA3 : rs.natAbs < 2 ^ 40 := by omega
  have hA4 : (rs + t).natAbs < 2 ^ 40 := by omega
  (try dsimp only)
  k_steps
  · exact absurd hsum (by assumption)
  · exact absurd hint (by assumption)
  · (with_reducible rename Fr _ _ _ _ => zF)
    (with_reducible rename News _ _ _ _ => zN)
    have z4 := (zN _ (.tail _ (.head _))).1
    have z5 := (zN _ (.tail _ (.tail _ (.head _)))).1
    exact hret _ _ _ (keep_two hg zF.keep b1 b2 z4 z5)
  · (with_reducible rename Fr _ _ _ _ => zF)
    (with_reducible rename News _ _ _ _ => zN)
    have z4 := (zN _ (.tail _ (.head _))).1
    have z5 := (zN _ (.tail _ (.tail _ (.head _)))).1
    exact hret _ _ _ (keep_two hg zF.keep b1 b2 z4 z5)
  · rcases hnear with h | h
    · have e : nearB (Float64.mul (rdH r g b) (Float64.ofInt t)) rs = false := by assumption
      rw [e] at h; cases h
    · have e : nearB (Float64.mul (rdH r g b) (Float64.ofInt t)) (rs + t) = false := by assumption
      rw [e] at h; cases h
end Mine
end
section -- Kmin2
theorem Mine.wTopOff18 : True := by w_top off; trivial
local macro_rules | `(tactic| walk_at "no such line") => `(tactic| fail)
local macro_rules | `(tactic| walk_at "no such line") => `(tactic| fail)
local macro_rules | `(tactic| walk_at "no such line") => `(tactic| fail)
local macro_rules | `(tactic| walk_at "no such line") => `(tactic| fail)
local macro_rules | `(tactic| walk_at "no such line") => `(tactic| fail)
local macro_rules | `(tactic| walk_at "no such line") => `(tactic| fail)
local macro_rules | `(tactic| walk_at "no such line") => `(tactic| fail)
local macro_rules | `(tactic| walk_at "no such line") => `(tactic| fail)
local macro_rules | `(tactic| walk_at "no such line") => `(tactic| fail)
local macro_rules | `(tactic| walk_at "no such line") => `(tactic| fail)
local macro_rules | `(tactic| walk_at "no such line") => `(tactic| fail)
local macro_rules | `(tactic| walk_at "no such line") => `(tactic| fail)
local macro_rules | `(tactic| walk_at "no such line") => `(tactic| fail)
local macro_rules | `(tactic| walk_at "no such line") => `(tactic| fail)
local macro_rules | `(tactic| walk_at "no such line") => `(tactic| fail)
local macro_rules | `(tactic| walk_at "no such line") => `(tactic| fail)
local macro_rules | `(tactic| walk_at "no such line") => `(tactic| fail)
local macro_rules | `(tactic| walk_at "no such line") => `(tactic| fail)
local macro_rules | `(tactic| walk_at "no such line") => `(tactic| fail)
local macro_rules | `(tactic| walk_at "no such line") => `(tactic| fail)
local macro_rules | `(tactic| walk_at "no such line") => `(tactic| fail)
local macro_rules | `(tactic| walk_at "no such line") => `(tactic| fail)
local macro_rules | `(tactic| walk_at "no such line") => `(tactic| fail)
local macro_rules | `(tactic| walk_at "no such line") => `(tactic| fail)
local macro_rules | `(tactic| walk_at "no such line") => `(tactic| fail)
local macro_rules | `(tactic| walk_at "no such line") => `(tactic| fail)
local macro_rules | `(tactic| walk_at "no such line") => `(tactic| fail)
local macro_rules | `(tactic| walk_at "no such line") => `(tactic| fail)
local macro_rules | `(tactic| walk_at "no such line") => `(tactic| fail)
local macro_rules | `(tactic| walk_at "no such line") => `(tactic| fail)
local macro_rules | `(tactic| walk_at "no such line") => `(tactic| fail)
local macro_rules | `(tactic| walk_at "no such line") => `(tactic| fail)
local macro_rules | `(tactic| walk_at "no such line") => `(tactic| fail)
local macro_rules | `(tactic| walk_at "no such line") => `(tactic| fail)
local macro_rules | `(tactic| walk_at "no such line") => `(tactic| fail)
local macro_rules | `(tactic| walk_at "no such line") => `(tactic| fail)
local macro_rules | `(tactic| walk_at "no such line") => `(tactic| fail)
local macro_rules | `(tactic| walk_at "no such line") => `(tactic| fail)
local macro_rules | `(tactic| walk_at "no such line") => `(tactic| fail)
local macro_rules | `(tactic| walk_at "no such line") => `(tactic| fail)
local macro_rules | `(tactic| walk_at "no such line") => `(tactic| fail)
local macro_rules | `(tactic| walk_at "no such line") => `(tactic| fail)
local macro_rules | `(tactic| walk_at "no such line") => `(tactic| fail)
local macro_rules | `(tactic| walk_at "no such line") => `(tactic| fail)
local macro_rules | `(tactic| walk_at "no such line") => `(tactic| fail)
local macro_rules | `(tactic| walk_at "no such line") => `(tactic| fail)
local macro_rules | `(tactic| walk_at "no such line") => `(tactic| fail)
local macro_rules | `(tactic| walk_at "no such line") => `(tactic| fail)
local macro_rules | `(tactic| walk_at "no such line") => `(tactic| fail)
local macro_rules | `(tactic| walk_at "no such line") => `(tactic| fail)
open PySem PySem.W PyProof.Rows
namespace Mine
/-- hidden from the arithmetic of the walk -/
def MinIs (v a b : Int) : Prop := v = min a b
def MaxIs (v a b : Int) : Prop := v = max a b
section
variable {prog : Program} {w : World} {A : Around} {E : Value → Shared → Prop} {s : Shared} {h₀ : Heap} {L : Addr} {m : Str → Option Value} {news : List (Addr × Obj)}
theorem min2_I {a b : Int} {t u : Tok} {Q : Value → Shared → Prop} (hh : A.handled = none) (F : Fr h₀ L s.heap m) (N : News h₀ L s.heap news)
    (h : ∀ h' tk v tok, MinIs v a b → Fr h₀ L h' m → News h₀ L h' news → Q (.int v tok) { s with heap := h', toks := tk }) :
    wpAny (model prog w) A (call (.builtin "min") [.int a t, .int b u]) Q E s :=
  min_two_N hh F N fun h' tk F' N' => h h' tk _ _ (by unfold MinIs; rw [Int.min_def]; split <;> split <;> omega) F' N'
theorem max2_I {a b : Int} {t u : Tok} {Q : Value → Shared → Prop} (hh : A.handled = none) (F : Fr h₀ L s.heap m) (N : News h₀ L s.heap news)
    (h : ∀ h' tk v tok, MaxIs v a b → Fr h₀ L h' m → News h₀ L h' news → Q (.int v tok) { s with heap := h', toks := tk }) :
    wpAny (model prog w) A (call (.builtin "max") [.int a t, .int b u]) Q E s :=
  max_two_N hh F N fun h' tk F' N' => h h' tk _ _ (by unfold MaxIs; rw [Int.max_def]; split <;> split <;> omega) F' N'
end
theorem min2_T {prog : Program} {w : World} {A : Around} {E : Value → Shared → Prop} {s : Shared} {h₀ : Heap} {L : Addr} {m : Str → Option Value} {news : List (Addr × Obj)} {a b : Int} {t u : Tok} {Q : Value → Shared → Prop} (hh : A.handled = none) (F : Fr h₀ L s.heap m) (N : News h₀ L s.heap news)
    (h : ∀ h' tk tok, Fr h₀ L h' m → News h₀ L h' news → Q (.int (min a b) tok) { s with heap := h', toks := tk }) :
    wpAny (model prog w) A (call (.builtin "min") [.int a t, .int b u]) Q E s :=
  min2_I hh F N fun h' tk v tok e F' N' => by unfold MinIs at e; subst e; exact h h' tk tok F' N'
/-- what _law_falls says of one corner -/
def fallI (p t c : Int) : Int := min (max (min ((6 * p - c * t).fmod (6 * t)) (6 * t - (6 * p - c * t).fmod (6 * t)) - t) 0) t
theorem fall_chain {p t c v x y : Int} (h1 : MinIs v x t) (h2 : MaxIs x (y - t) 0) (h3 : MinIs y ((6 * p - c * t).fmod (6 * t)) (6 * t - (6 * p - c * t).fmod (6 * t))) : v = fallI p t c := by
  unfold MinIs at h1 h3; unfold MaxIs at h2; subst h1 h2 h3; rfl
abbrev RetL3I (x y z : Int) : Shared → (Value → Shared → Prop) → Prop :=
  fun s Q => ∀ (d : Addr) (t1 t2 t3 : Tok) (n : Nat) (h' : Heap) (tk' : Nat), Keep s.heap h' → s.heap.get? d = none → h'.get? d = some (W.listOf #[.int x t1, .int y t2, .int z t3] n) → Q (.ref d) { s with heap := h', toks := tk' }
end Mine
end
section -- Kfalls
theorem Mine.wTopOff19 : True := by w_top off; trivial
local macro_rules | `(tactic| walk_at "eval BinOp") => `(tactic| (k_here; k_dflt (refine' Mine.pev_ok ?F ?e ?c ?k ?_; (case F => k_asm); (case e => exact rfl); (case c => (repeat (first | exact trivial | refine And.intro (by mul_fits) ?_))); (case k => rfl); k_whole)))
local macro_rules | `(tactic| walk_at "spliced") => `(tactic| (k_here; k_dflt (refine' Mine.args_ok ?F ?k ?e ?c ?_; (case F => k_asm); (case k => rfl); (case e => exact rfl); (case c => (repeat (first | exact trivial | refine And.intro (by mul_fits) ?_))); k_whole)))
local macro_rules | `(tactic| walk_at "isTrue Compare") => `(tactic| (k_here; k_dflt (refine' Mine.cmp_ok ?F ?e ?c ?k ?n ?_; (case F => k_asm); (case e => exact rfl); (case c => (repeat (first | exact trivial | refine And.intro (by mul_fits) ?_))); (case k => rfl); (case n => rfl); k_whole)))
local macro_rules | `(tactic| walk_at "exec Assign") => `(tactic| (k_here; k_dflt (refine' Mine.assign_ok ?F ?N ?e ?c ?k ?x ?s ?_; (case F => k_asm); (case N => k_asm); (case e => exact rfl); (case c => (repeat (first | exact trivial | refine And.intro (by mul_fits) ?_))); (case k => rfl); (case x => rfl); (case s => rfl); k_whole; intro h' m' F' N'; (try k_sweep))))
local macro_rules | `(tactic| walk_at "exec Return some") => `(tactic| (k_here; k_dflt (refine' Mine.ret_ok ?F ?e ?c ?k ?_; (case F => k_asm); (case e => exact rfl); (case c => (repeat (first | exact trivial | refine And.intro (by mul_fits) ?_))); (case k => rfl); k_whole)))
local macro_rules | `(tactic| walk_at "storeName") => `(tactic| (k_here; k_dflt (refine' Mine.storeY_L ?F ?N ?_ ?a ?b; (case F => k_asm); (case N => k_asm); (case a => rfl); (case b => rfl); k_whole; intro h' m' F' N'; (try k_sweep))))
local macro_rules | `(tactic| k_steps) => `(tactic| repeat' (first | dsimp only | ((with_reducible show PySem.wpAny _ _ (PySem.exec _ _) _ _ _); k_fold) | (k_unfold; (try dsimp only)) | (k_end; wrow_close) | walk1 | (dsimp only; walk1) | (leave1; walk_say "STEP leave1"; try dsimp only) | fail "no step"))
local macro_rules | `(tactic| k_ne) => `(tactic| (refine PySem.W.neN ?_; (try dsimp only); first
  | with_reducible assumption
  | ((with_reducible refine Nat.ne_of_lt ?_); (repeat with_reducible refine Mine.nzLT ?_); (first | with_reducible assumption | exact Mine.nzA1 (by with_reducible assumption) | exact Mine.nzA2 (by with_reducible assumption) | exact Mine.nzZ2 (by with_reducible assumption) | exact Mine.nzA3 (by with_reducible assumption) | exact Mine.nzZ3 (by with_reducible assumption) | exact Mine.nzA4 (by with_reducible assumption) | exact Mine.nzZ4 (by with_reducible assumption) | exact Mine.nzA5 (by with_reducible assumption) | exact Mine.nzZ5 (by with_reducible assumption) | exact Mine.nzA6 (by with_reducible assumption) | exact Mine.nzZ6 (by with_reducible assumption) | exact Mine.nzA7 (by with_reducible assumption) | exact Mine.nzZ7 (by with_reducible assumption) | exact Mine.nzA8 (by with_reducible assumption) | exact Mine.nzZ8 (by with_reducible assumption) | exact Mine.nzA9 (by with_reducible assumption) | exact Mine.nzZ9 (by with_reducible assumption) | exact Mine.nzA10 (by with_reducible assumption) | exact Mine.nzZ10 (by with_reducible assumption) | exact Mine.nzA11 (by with_reducible assumption) | exact Mine.nzZ11 (by with_reducible assumption) | exact Mine.nzA12 (by with_reducible assumption) | exact Mine.nzZ12 (by with_reducible assumption) | exact Mine.nzA13 (by with_reducible assumption) | exact Mine.nzZ13 (by with_reducible assumption) | exact Mine.nzA14 (by with_reducible assumption) | exact Mine.nzZ14 (by with_reducible assumption) | exact Mine.nzA15 (by with_reducible assumption) | exact Mine.nzZ15 (by with_reducible assumption) | exact Mine.nzA16 (by with_reducible assumption) | exact Mine.nzZ16 (by with_reducible assumption)))
  | ((with_reducible refine Nat.ne_of_gt ?_); (repeat with_reducible refine Mine.nzLT ?_); (first | with_reducible assumption | exact Mine.nzA1 (by with_reducible assumption) | exact Mine.nzA2 (by with_reducible assumption) | exact Mine.nzZ2 (by with_reducible assumption) | exact Mine.nzA3 (by with_reducible assumption) | exact Mine.nzZ3 (by with_reducible assumption) | exact Mine.nzA4 (by with_reducible assumption) | exact Mine.nzZ4 (by with_reducible assumption) | exact Mine.nzA5 (by with_reducible assumption) | exact Mine.nzZ5 (by with_reducible assumption) | exact Mine.nzA6 (by with_reducible assumption) | exact Mine.nzZ6 (by with_reducible assumption) | exact Mine.nzA7 (by with_reducible assumption) | exact Mine.nzZ7 (by with_reducible assumption) | exact Mine.nzA8 (by with_reducible assumption) | exact Mine.nzZ8 (by with_reducible assumption) | exact Mine.nzA9 (by with_reducible assumption) | exact Mine.nzZ9 (by with_reducible assumption) | exact Mine.nzA10 (by with_reducible assumption) | exact Mine.nzZ10 (by with_reducible assumption) | exact Mine.nzA11 (by with_reducible assumption) | exact Mine.nzZ11 (by with_reducible assumption) | exact Mine.nzA12 (by with_reducible assumption) | exact Mine.nzZ12 (by with_reducible assumption) | exact Mine.nzA13 (by with_reducible assumption) | exact Mine.nzZ13 (by with_reducible assumption) | exact Mine.nzA14 (by with_reducible assumption) | exact Mine.nzZ14 (by with_reducible assumption) | exact Mine.nzA15 (by with_reducible assumption) | exact Mine.nzZ15 (by with_reducible assumption) | exact Mine.nzA16 (by with_reducible assumption) | exact Mine.nzZ16 (by with_reducible assumption)))
  | ((repeat with_reducible refine Mine.nzSS ?_); (first | with_reducible refine Mine.nzS0 ?_ | with_reducible refine Mine.nz0S ?_); (repeat (first | with_reducible exact Nat.le_refl _ | with_reducible refine Mine.nzLS ?_)); done)
  | (first | with_reducible assumption | exact Mine.nzA1 (by with_reducible assumption) | exact Mine.nzA2 (by with_reducible assumption) | exact Mine.nzZ2 (by with_reducible assumption) | exact Mine.nzA3 (by with_reducible assumption) | exact Mine.nzZ3 (by with_reducible assumption) | exact Mine.nzA4 (by with_reducible assumption) | exact Mine.nzZ4 (by with_reducible assumption) | exact Mine.nzA5 (by with_reducible assumption) | exact Mine.nzZ5 (by with_reducible assumption) | exact Mine.nzA6 (by with_reducible assumption) | exact Mine.nzZ6 (by with_reducible assumption) | exact Mine.nzA7 (by with_reducible assumption) | exact Mine.nzZ7 (by with_reducible assumption) | exact Mine.nzA8 (by with_reducible assumption) | exact Mine.nzZ8 (by with_reducible assumption) | exact Mine.nzA9 (by with_reducible assumption) | exact Mine.nzZ9 (by with_reducible assumption) | exact Mine.nzA10 (by with_reducible assumption) | exact Mine.nzZ10 (by with_reducible assumption) | exact Mine.nzA11 (by with_reducible assumption) | exact Mine.nzZ11 (by with_reducible assumption) | exact Mine.nzA12 (by with_reducible assumption) | exact Mine.nzZ12 (by with_reducible assumption) | exact Mine.nzA13 (by with_reducible assumption) | exact Mine.nzZ13 (by with_reducible assumption) | exact Mine.nzA14 (by with_reducible assumption) | exact Mine.nzZ14 (by with_reducible assumption) | exact Mine.nzA15 (by with_reducible assumption) | exact Mine.nzZ15 (by with_reducible assumption) | exact Mine.nzA16 (by with_reducible assumption) | exact Mine.nzZ16 (by with_reducible assumption))
  | (apply Ne.symm; (first | with_reducible assumption | exact Mine.nzA1 (by with_reducible assumption) | exact Mine.nzA2 (by with_reducible assumption) | exact Mine.nzZ2 (by with_reducible assumption) | exact Mine.nzA3 (by with_reducible assumption) | exact Mine.nzZ3 (by with_reducible assumption) | exact Mine.nzA4 (by with_reducible assumption) | exact Mine.nzZ4 (by with_reducible assumption) | exact Mine.nzA5 (by with_reducible assumption) | exact Mine.nzZ5 (by with_reducible assumption) | exact Mine.nzA6 (by with_reducible assumption) | exact Mine.nzZ6 (by with_reducible assumption) | exact Mine.nzA7 (by with_reducible assumption) | exact Mine.nzZ7 (by with_reducible assumption) | exact Mine.nzA8 (by with_reducible assumption) | exact Mine.nzZ8 (by with_reducible assumption) | exact Mine.nzA9 (by with_reducible assumption) | exact Mine.nzZ9 (by with_reducible assumption) | exact Mine.nzA10 (by with_reducible assumption) | exact Mine.nzZ10 (by with_reducible assumption) | exact Mine.nzA11 (by with_reducible assumption) | exact Mine.nzZ11 (by with_reducible assumption) | exact Mine.nzA12 (by with_reducible assumption) | exact Mine.nzZ12 (by with_reducible assumption) | exact Mine.nzA13 (by with_reducible assumption) | exact Mine.nzZ13 (by with_reducible assumption) | exact Mine.nzA14 (by with_reducible assumption) | exact Mine.nzZ14 (by with_reducible assumption) | exact Mine.nzA15 (by with_reducible assumption) | exact Mine.nzZ15 (by with_reducible assumption) | exact Mine.nzA16 (by with_reducible assumption) | exact Mine.nzZ16 (by with_reducible assumption)))
  | omega))
local macro_rules | `(tactic| k_lt $h:ident) => `(tactic| (replace $h := Mine.allLt1 $h; dsimp only [Mine.AllLt1, Mine.AllLtC] at $h:ident))
open PySem PySem.W PyProof.Rows
namespace Mine
set_option Elab.async false
local macro_rules | `(tactic| walk_at "call builtin:min") => `(tactic| (k_here; (with_reducible show wpAny _ _ (call (Value.builtin _) [Value.int _ _, Value.int _ _]) _ _ _); k_dflt (refine' min2_I ?k1 ?k2 ?k3 ?_; (case k1 => rfl); (case k2 => k_asm); (case k3 => k_asm); k_whole); intro h' tk' v' t' M' F' N'; (try dsimp only)))
local macro_rules | `(tactic| walk_at "call builtin:max") => `(tactic| (k_here; (with_reducible show wpAny _ _ (call (Value.builtin _) [Value.int _ _, Value.int _ _]) _ _ _); k_dflt (refine' max2_I ?k1 ?k2 ?k3 ?_; (case k1 => rfl); (case k2 => k_asm); (case k3 => k_asm); k_whole); intro h' tk' v' t' M' F' N'; (try dsimp only)))
local macro_rules | `(tactic| walk_at "call builtin:list.append") => `(tactic| (k_here; (simp only [List.cons_append, List.nil_append]); (with_reducible show wpAny _ _ (call (Value.builtin _) [Value.ref _, _]) _ _ _); k_dflt (refine' append_K ?k1 ?k2 ?k3 ?_ ?z; (case k1 => k_asm); (case k2 => k_asm); (case k3 => k_upd); (case z => size_fits); k_whole); intro h' F' N'; (try k_sweep)))
set_option maxRecDepth 100000 in
set_option maxHeartbeats 8000000 in
set_option pp.deepTerms false in
set_option pp.maxSteps 6000 in
theorem falls_spec (w : World) (p t : Int) (t1 t2 : Tok) :
    CtrK w 4 40 171 [.int p t1, .int t t2] (fun _ => 0 < t ∧ t < 1000 ∧ p.natAbs < 1000) (RetL3I (fallI p t 0) (fallI p t 2) (fallI p t 4)) := by
  dsimp only [CtrK, P0, LS, RetL3I]
  k_fill
  intro mean mg mb dp un gd cn cs a ccd cl outer A₀ base h₀ L m s Q E B F X T hk hpre hdp hun hret
  obtain ⟨hp1, hp2, hp3⟩ := hpre
  refine wpAny_call ?_
  k_dflt (refine' enterP ?k1 ?k2 ?k3 ?k5 ?kA ?kF ?kK ?k6 ?k7 ?k8 ?k9 ?kB ?_ ?c2 ?c3 ?c4 ?c5; (case kA => exact rfl); (case kF => exact rfl); (case kK => assumption); (case k1 => k_asm); (case k2 => k_asm); (case k3 => k_asm); (case k5 => k_asm); (case k6 => k_is); (case k7 => k_is); (case k8 => ktr_room); (case k9 => exact BindsTo.of_eq rfl); (case c5 => decide); (case kB => exact locs rfl); (case c2 => exact rfl); (case c3 => exact rfl); (case c4 => exact rfl); k_whole; intro L' h' F' N' B' X' T'; (try dsimp only); (try k_lift B'); (try k_fold))
  (first | (refine Mine.letF F' ?_; clear F'; intro mz18 F') | skip); (first | (refine Mine.letAE ?_; intro envz18) | skip); (first | (refine Mine.genT ?_; intro tkz18) | skip)
  k_steps
  (try dsimp only)
  have hf : ∀ (x y z : Int) (d : Addr) (t1 t2 t3 : Tok) (n : Nat) (h' : Heap) (tk' : Nat), x = fallI p t 0 → y = fallI p t 2 → z = fallI p t 4 → Keep s.heap h' → s.heap.get? d = none → h'.get? d = some (W.listOf #[.int x t1, .int y t2, .int z t3] n) → Q (.ref d) { s with heap := h', toks := tk' } := by
    intro x y z d t1 t2 t3 n h' tk' e1 e2 e3; subst e1 e2 e3; exact hret d t1 t2 t3 n h' tk'
  (with_reducible rename Fr _ _ _ _ => kF)
  (with_reducible rename News _ _ _ _ => kN)
  have h2 := kN _ (List.mem_cons_of_mem _ List.mem_cons_self)
  refine hf _ _ _ _ _ _ _ _ _ _ ?_ ?_ ?_ kF.keep h2.2.2 h2.1
  · exact fall_chain (by assumption) (by assumption) (by assumption)
  · exact fall_chain (by assumption) (by assumption) (by assumption)
  · exact fall_chain (by assumption) (by assumption) (by assumption)
end Mine
end
section -- KfallsC
open PySem PySem.W PyProof.Rows
namespace Mine
theorem falls_ctr (w : World) (news : List (Addr × Obj)) (p t : Int) (t1 t2 : Tok) :
    Ctr w 4 40 171 news [.int p t1, .int t t2] (0 < t ∧ t < 1000 ∧ p.natAbs < 1000)
      (fun h₀ L m s Q => ∀ (d : Addr) (t1 t2 t3 : Tok) (n : Nat) (h' : Heap) (tk' : Nat), Fr h₀ L h' m → News h₀ L h' ((d, W.listOf #[.int (fallI p t 0) t1, .int (fallI p t 2) t2, .int (fallI p t 4) t3] n) :: news) → Q (.ref d) { s with heap := h', toks := tk' }) := by
  intro mean mg mb dp un gd cn cs a ccd cl outer A₀ base h₀ L m s Q E B F X N T hk hpre hdp hun hret
  exact falls_spec w p t t1 t2 mean mg mb dp un gd cn cs a ccd cl outer A₀ base h₀ L m s Q E B F X T hk hpre hdp hun fun d t1 t2 t3 n h' tk' kp hn ho => hret d t1 t2 t3 n h' tk' (frKeep F kp) (newsKeep1 F N kp hn ho)
end Mine
end
section -- Kzip
theorem Mine.wTopOff20 : True := by w_top off; trivial
local macro_rules | `(tactic| walk_at "no such line") => `(tactic| fail)
local macro_rules | `(tactic| walk_at "no such line") => `(tactic| fail)
local macro_rules | `(tactic| walk_at "no such line") => `(tactic| fail)
local macro_rules | `(tactic| walk_at "no such line") => `(tactic| fail)
local macro_rules | `(tactic| walk_at "no such line") => `(tactic| fail)
local macro_rules | `(tactic| walk_at "no such line") => `(tactic| fail)
local macro_rules | `(tactic| walk_at "no such line") => `(tactic| fail)
local macro_rules | `(tactic| walk_at "no such line") => `(tactic| fail)
local macro_rules | `(tactic| walk_at "no such line") => `(tactic| fail)
local macro_rules | `(tactic| walk_at "no such line") => `(tactic| fail)
local macro_rules | `(tactic| walk_at "no such line") => `(tactic| fail)
local macro_rules | `(tactic| walk_at "no such line") => `(tactic| fail)
local macro_rules | `(tactic| walk_at "no such line") => `(tactic| fail)
local macro_rules | `(tactic| walk_at "no such line") => `(tactic| fail)
local macro_rules | `(tactic| walk_at "no such line") => `(tactic| fail)
local macro_rules | `(tactic| walk_at "no such line") => `(tactic| fail)
local macro_rules | `(tactic| walk_at "no such line") => `(tactic| fail)
local macro_rules | `(tactic| walk_at "no such line") => `(tactic| fail)
local macro_rules | `(tactic| walk_at "no such line") => `(tactic| fail)
local macro_rules | `(tactic| walk_at "no such line") => `(tactic| fail)
local macro_rules | `(tactic| walk_at "no such line") => `(tactic| fail)
local macro_rules | `(tactic| walk_at "no such line") => `(tactic| fail)
local macro_rules | `(tactic| walk_at "no such line") => `(tactic| fail)
local macro_rules | `(tactic| walk_at "no such line") => `(tactic| fail)
local macro_rules | `(tactic| walk_at "no such line") => `(tactic| fail)
open PySem PySem.W PyProof.Rows
open Sem (wp)
namespace Mine
/- zip of a tuple and a list, turned from the library's zip of two lists (PyProof/ZipIter.lean) -/
theorem tupIter_at {h h' : Heap} {a t : Addr} {i : Nat} (x : h.IsTupleIter a t i) (k : ∀ o, h.get? a = some o → h'.get? a = some o) : h'.IsTupleIter a t i :=
  let ⟨o, ho, r⟩ := x; ⟨o, k o ho, r⟩
theorem tup_at {h h' : Heap} {a : Addr} {is : Array Value} (x : h.IsTuple a is) (k : ∀ o, h.get? a = some o → h'.get? a = some o) : h'.IsTuple a is :=
  let ⟨o, ho, r⟩ := x; ⟨o, k o ho, r⟩
section
variable {prog : Program} {w : World} {A : Around} {E : Value → Shared → Prop} {s : Shared}
theorem nextOf_tup_item {it l : Addr} {i : Nat} {items} {x : Value} {Q : Value → Shared → Prop} (hit : s.heap.IsTupleIter it l i)
    (hl : s.heap.IsTuple l items) (hx : items[i]? = some x)
    (hQ : ∀ h', h'.IsTupleIter it l (i + 1) → Heap.SameBut it s.heap h' → Q x { s with heap := h' }) :
    wpAny (model prog w) A (Builtin.SmallTypes.nextOf (.ref it)) Q E s := by
  obtain ⟨o, ho, hc, hd⟩ := id hit
  obtain ⟨ol, hol, _, nl, hdl⟩ := hl
  unfold Builtin.SmallTypes.nextOf
  refine wpAny_bind (wpAny_callSpecial?_slot (name := Str.ofString "__next__") hit.typeIs F.slot_tuple_iterator_next
    (wpAny_call_entry F.slot_tuple_iterator_next hit.typeIs F.entry_tuple_iterator_next ?_ (F.args_tuple_iterator_next_1 _)))
  show wpAny _ _ (field (.ref it) 0 >>= _) _ _ s
  refine wpAny_bind (wpAny_field ho hd (x := .ref l) rfl ?_)
  show wpAny _ _ (if (Value.ref l == Value.none) = true then _ else _) _ _ s
  rw [if_neg (show ¬ ((Value.ref l == Value.none) = true) from Bool.false_ne_true)]
  show wpAny _ _ (field (.ref it) 1 >>= _) _ _ s
  refine wpAny_bind (wpAny_field ho hd (x := .int i 0) rfl ?_)
  show wpAny _ _ (seqItems? (.ref l) >>= _) _ _ s
  refine wpAny_bind (wpAny_seqItems hol hdl ?_)
  simp only [Int.toNat_natCast, hx]
  refine wpAny_bind (wpAny_setField ho hd (by simp) (wpAny_pure ⟨x, rfl, wpAny_pure (hQ _ ?_ (Heap.SameBut.update ..))⟩))
  exact ⟨_, Heap.get?_update_self _ ho (Obj.isFreed_of_fields (Obj.data_mapFields hd _)), (Obj.cls_mapFields ..).trans hc, by
    rw [Obj.data_mapFields hd]; simp [rawInt]⟩

theorem nextOf_tup_end {it l : Addr} {i : Nat} {items} {Q : Value → Shared → Prop} (hh : A.handled = none)
    (hit : s.heap.IsTupleIter it l i) (hl : s.heap.IsTuple l items) (hx : items[i]? = none)
    (hE : ∀ h' e, Heap.ExtBut it s.heap h' → (∃ o, h'.get? e = some o ∧ o.cls = .type "StopIteration") → E (.ref e) { s with heap := h' }) :
    wpAny (model prog w) A (Builtin.SmallTypes.nextOf (.ref it)) Q E s := by
  obtain ⟨o, ho, hc, hd⟩ := id hit
  obtain ⟨ol, hol, _, nl, hdl⟩ := hl
  unfold Builtin.SmallTypes.nextOf
  refine wpAny_bind (wpAny_callSpecial?_slot (name := Str.ofString "__next__") hit.typeIs F.slot_tuple_iterator_next
    (wpAny_call_entry F.slot_tuple_iterator_next hit.typeIs F.entry_tuple_iterator_next ?_ (F.args_tuple_iterator_next_1 _)))
  show wpAny _ _ (field (.ref it) 0 >>= _) _ _ s
  refine wpAny_bind (wpAny_field ho hd (x := .ref l) rfl ?_)
  show wpAny _ _ (if (Value.ref l == Value.none) = true then _ else _) _ _ s
  rw [if_neg (show ¬ ((Value.ref l == Value.none) = true) from Bool.false_ne_true)]
  show wpAny _ _ (field (.ref it) 1 >>= _) _ _ s
  refine wpAny_bind (wpAny_field ho hd (x := .int i 0) rfl ?_)
  show wpAny _ _ (seqItems? (.ref l) >>= _) _ _ s
  refine wpAny_bind (wpAny_seqItems hol hdl ?_)
  simp only [Int.toNat_natCast, hx]
  refine wpAny_bind (wpAny_rule (wpAny_bind (wpAny_setField ho hd (by simp) ?_)))
  show wpAny _ _ (newExc (.type "StopIteration") [] >>= _) _ _ _
  refine wpAny_bind ?_
  simp only [newExc, newTuple]
  refine wpAny_bind (wpAny_newObj_type ?_ (by size_fits))
  refine wpAny_bind (m := firstArgMember _ _) (wpAny_of_eq (a := Value.none) (by first | rfl | (simp only [firstArgMember]; rfl)) ?_)
  refine wpAny_newObj_type ?_ (by size_fits)
  simp only [raiseNew]
  refine wpAny_bind (wpAny_handled ?_)
  first | rw [show A.in1.handled = none from hh] | rw [hh]
  refine wpAny_bind (wpAny_pure (wpAny_throw ?_))
  exact hE _ _ (((Heap.SameBut.update ..).extBut.push _).push _) ⟨_, Heap.get?_push_size _ rfl, rfl⟩

abbrev IsEnumOut (h : Heap) (e it : Addr) (i : Int) (item : Value) (a : Addr) : Prop :=
  h.get? e = some { cls := .type "enumerate", dict := none, data := .fields #[rawInt a, .bool false, .ref it, rawInt i, .none, item], slots := #[] }

theorem zipT_next_item {z TI TO i1 i2 l1 l2 : Addr} {k1 k2 : Nat} {xs ys : Array Value} {x y a b : Value} {Q : Value → Shared → Prop} (D : ZipApart z TI TO i1 i2 l1 l2)
    (hz : IsZip s.heap z TI TO .none) (hTI : IsPair s.heap TI (.ref i1) (.ref i2)) (hTO : IsPair s.heap TO a b)
    (h1 : s.heap.IsTupleIter i1 l1 k1) (h2 : s.heap.IsListIter i2 l2 k2) (hl1 : s.heap.IsTuple l1 xs) (hl2 : s.heap.IsList l2 ys) (hx : xs[k1]? = some x) (hy : ys[k2]? = some y)
    (hQ : ∀ h', IsZip h' z TI TO (rawInt s.heap.objs.size) → IsPair h' TO x y → h'.IsTupleIter i1 l1 (k1 + 1) → h'.IsListIter i2 l2 (k2 + 1) → IsPair h' s.heap.objs.size x y → h'.objs.size = s.heap.objs.size + 1 →
      (∀ c o, c ≠ z → c ≠ TO → c ≠ i1 → c ≠ i2 → s.heap.get? c = some o → h'.get? c = some o) → Q (.ref s.heap.objs.size) { s with heap := h' }) :
    wpAny (model prog w) A (Builtin.«zip.__next__» ⟨[.ref z], []⟩) (fun fin s' => ∃ v, fin = .done (.ret v) ∧ Q v s') E s := by
  show wpAny _ _ (field (.ref z) 2 >>= _) _ _ _
  refine wpAny_bind (wpAny_field hz rfl (x := .bool false) rfl ?_)
  show wpAny _ _ (field (.ref z) 3 >>= _) _ _ _
  refine wpAny_bind (wpAny_field hz rfl (x := .ref TI) rfl ?_)
  refine wpAny_bind (wpAny_seqItems hTI rfl ?_)
  show wpAny _ _ (Builtin.SmallTypes.ownedTupleIsFree (.ref z) >>= _) _ _ _
  refine wpAny_bind ?_
  unfold Builtin.SmallTypes.ownedTupleIsFree
  refine wpAny_bind (wpAny_field hz rfl (x := .none) rfl (wpAny_pure ?_))
  simp only [if_true]
  refine wpAny_bind (wpAny_rule ?_)
  refine wpAny_bind (wpAny_field hz rfl (x := .ref TO) rfl ?_)
  refine wpAny_bind (wpAny_setField_rec hz (by simp) fun h₁ hz₁ hs₁ => ?_)
  replace hz₁ : IsZip h₁ z TI TO .ellipsis := hz₁
  refine wpAny_bind ?_
  simp only [List.zipIdx_cons, List.zipIdx_nil, List.forIn_cons, List.forIn_nil]

  refine wpAny_bind (wpAny_bind (wpAny_onRaise ?_))
  show wpAny _ _ (Builtin.SmallTypes.nextOf (.ref i1) >>= _) _ _ _
  refine wpAny_bind (nextOf_tup_item (h1.extBut hs₁.extBut D.i1z) (hl1.extBut hs₁.extBut D.l1z) hx fun h₂ h1₂ hs₂ => wpAny_pure ?_)
  have hTO₂ : IsPair h₂ TO a b := hs₂.extBut _ _ D.TOi1 (hs₁.extBut _ _ D.TOz hTO)
  refine wpAny_bind (wpAny_seqItems hTO₂ rfl ?_)
  refine wpAny_bind (wpAny_updateSeq_pair hTO₂ fun h₃ hTO₃ hs₃ => ?_)
  replace hTO₃ : IsPair h₃ TO x b := hTO₃
  refine wpAny_bind (wpAny_letGo (wpAny_pure ?_))

  refine wpAny_bind (wpAny_bind (wpAny_onRaise ?_))
  show wpAny _ _ (Builtin.SmallTypes.nextOf (.ref i2) >>= _) _ _ _
  refine wpAny_bind (wpAny_nextOf_list_item (((h2.extBut hs₁.extBut D.i2z).extBut hs₂.extBut D.i12.symm).extBut hs₃.extBut D.TOi2.symm)
    (((hl2.extBut hs₁.extBut D.l2z).extBut hs₂.extBut D.l2i1).extBut hs₃.extBut D.l2TO) hy fun h₄ h2₄ hs₄ => wpAny_pure ?_)
  have hTO₄ : IsPair h₄ TO x b := hs₄.extBut _ _ D.TOi2 hTO₃
  refine wpAny_bind (wpAny_seqItems hTO₄ rfl ?_)
  refine wpAny_bind (wpAny_updateSeq_pair hTO₄ fun h₅ hTO₅ hs₅ => ?_)
  replace hTO₅ : IsPair h₅ TO x y := hTO₅
  refine wpAny_bind (wpAny_letGo (wpAny_pure (wpAny_pure ?_)))

  refine wpAny_bind (wpAny_seqItems hTO₅ rfl ?_)
  refine wpAny_bind (wpAny_newTuple ?_)
  have hsz : h₅.objs.size = s.heap.objs.size := by rw [hs₅.1, hs₄.1, hs₃.1, hs₂.1, hs₁.1]
  have hz₅ : IsZip h₅ z TI TO .ellipsis := hs₅.extBut _ _ D.TOz.symm (hs₄.extBut _ _ D.i2z.symm (hs₃.extBut _ _ D.TOz.symm (hs₂.extBut _ _ D.i1z.symm hz₁)))
  have hk₅ : ∀ c o, c ≠ z → c ≠ TO → c ≠ i1 → c ≠ i2 → s.heap.get? c = some o → h₅.get? c = some o := fun c o c1 c2 c3 c4 e =>
    hs₅.extBut _ _ c2 (hs₄.extBut _ _ c4 (hs₃.extBut _ _ c2 (hs₂.extBut _ _ c3 (hs₁.extBut _ _ c1 e))))
  have h1₅ : h₅.IsTupleIter i1 l1 (k1 + 1) := ((h1₂.extBut hs₃.extBut D.TOi1.symm).extBut hs₄.extBut D.i12).extBut hs₅.extBut D.TOi1.symm
  have h2₅ : h₅.IsListIter i2 l2 (k2 + 1) := h2₄.extBut hs₅.extBut D.TOi2.symm
  have hzlt : z < h₅.objs.size := Heap.lt_size hz₅
  have hTOlt : TO < h₅.objs.size := Heap.lt_size hTO₅
  have hi1lt : i1 < h₅.objs.size := by obtain ⟨_, e, _⟩ := h1₅; exact Heap.lt_size e
  have hi2lt : i2 < h₅.objs.size := by obtain ⟨_, e, _⟩ := h2₅; exact Heap.lt_size e
  show wpAny _ _ (Builtin.SmallTypes.ownedTupleHandOut (.ref z) (.ref h₅.objs.size) >>= _) _ _ _
  refine wpAny_bind ?_
  unfold Builtin.SmallTypes.ownedTupleHandOut
  have hz₆ : IsZip (h₅.push { cls := .type "tuple", data := .seq #[x, y] }) z TI TO .ellipsis := Heap.get?_push_of_some _ hz₅
  refine wpAny_bind (wpAny_setField_rec hz₆ (by simp) fun h₇ hz₇ hs₇ => ?_)
  replace hz₇ : IsZip h₇ z TI TO (rawInt h₅.objs.size) := hz₇
  refine wpAny_setField_rec hz₇ (by simp) fun h₈ hz₈ hs₈ => ?_
  replace hz₈ : IsZip h₈ z TI TO (rawInt h₅.objs.size) := hz₈
  have up : ∀ c o, c ≠ z → h₅.get? c = some o → h₈.get? c = some o := fun c o c1 e => hs₈.extBut _ _ c1 (hs₇.extBut _ _ c1 (Heap.get?_push_of_some _ e))
  have hT₈ : IsPair h₈ h₅.objs.size x y := hs₈.extBut _ _ (Nat.ne_of_gt hzlt) (hs₇.extBut _ _ (Nat.ne_of_gt hzlt) (Heap.get?_push_size _ rfl))
  have hz8 : h₈.objs.size = h₅.objs.size + 1 := by rw [hs₈.1, hs₇.1, Heap.size_push]
  rw [hsz] at hz₈ hT₈ hz8
  refine wpAny_pure ⟨_, rfl, ?_⟩
  show Q (.ref h₅.objs.size) _
  rw [hsz]
  exact hQ h₈ hz₈ (up _ _ D.TOz hTO₅) (tupIter_at h1₅ fun o e => up _ o D.i1z e) (h2₅.at fun o e => up _ o D.i2z e) hT₈ hz8 fun c o c1 c2 c3 c4 e => up c o c1 (hk₅ c o c1 c2 c3 c4 e)

theorem zipT_next_end {z TI TO i1 i2 l1 l2 : Addr} {k1 k2 : Nat} {xs ys : Array Value} {a b : Value} {Q : PySem.Fin → Shared → Prop} (hh : A.handled = none) (D : ZipApart z TI TO i1 i2 l1 l2)
    (hz : IsZip s.heap z TI TO .none) (hTI : IsPair s.heap TI (.ref i1) (.ref i2)) (hTO : IsPair s.heap TO a b)
    (h1 : s.heap.IsTupleIter i1 l1 k1) (h2 : s.heap.IsListIter i2 l2 k2) (hl1 : s.heap.IsTuple l1 xs) (hl2 : s.heap.IsList l2 ys) (hend : xs[k1]? = none ∨ ys[k2]? = none)
    (hE : ∀ h' e, (∀ c o, c ≠ z → c ≠ TO → c ≠ i1 → c ≠ i2 → s.heap.get? c = some o → h'.get? c = some o) → (∃ o, h'.get? e = some o ∧ o.cls = .type "StopIteration") → E (.ref e) { s with heap := h' }) :
    wpAny (model prog w) A (Builtin.«zip.__next__» ⟨[.ref z], []⟩) Q E s := by
  show wpAny _ _ (field (.ref z) 2 >>= _) _ _ _
  refine wpAny_bind (wpAny_field hz rfl (x := .bool false) rfl ?_)
  show wpAny _ _ (field (.ref z) 3 >>= _) _ _ _
  refine wpAny_bind (wpAny_field hz rfl (x := .ref TI) rfl ?_)
  refine wpAny_bind (wpAny_seqItems hTI rfl ?_)
  show wpAny _ _ (Builtin.SmallTypes.ownedTupleIsFree (.ref z) >>= _) _ _ _
  refine wpAny_bind ?_
  unfold Builtin.SmallTypes.ownedTupleIsFree
  refine wpAny_bind (wpAny_field hz rfl (x := .none) rfl (wpAny_pure ?_))
  simp only [if_true]
  refine wpAny_bind (wpAny_rule ?_)
  refine wpAny_bind (wpAny_field hz rfl (x := .ref TO) rfl ?_)
  refine wpAny_bind (wpAny_setField_rec hz (by simp) fun h₁ hz₁ hs₁ => ?_)
  replace hz₁ : IsZip h₁ z TI TO .ellipsis := hz₁
  refine wpAny_bind ?_
  simp only [List.zipIdx_cons, List.zipIdx_nil, List.forIn_cons, List.forIn_nil]
  refine wpAny_bind (wpAny_bind (wpAny_onRaise ?_))
  show wpAny _ _ (Builtin.SmallTypes.nextOf (.ref i1) >>= _) _ _ _
  cases hx : xs[k1]? with
  | none =>
    refine wpAny_bind (nextOf_tup_end hh (h1.extBut hs₁.extBut D.i1z) (hl1.extBut hs₁.extBut D.l1z) hx fun h₂ e hs₂ he => ?_)
    obtain ⟨oe, hoe, hce⟩ := he
    have hz₂ : IsZip h₂ z TI TO .ellipsis := hs₂ _ _ D.i1z.symm hz₁
    have hez : e ≠ z := fun x => by subst x; rw [hz₂] at hoe; cases hoe; simp at hce
    refine wpAny_setField_rec hz₂ (by simp) fun h₃ _ hs₃ => hE h₃ e (fun c o c1 _ c3 _ x => hs₃.extBut _ _ c1 (hs₂ _ _ c3 (hs₁.extBut _ _ c1 x))) ⟨oe, hs₃.extBut _ _ hez hoe, hce⟩
  | some x =>
    have hy : ys[k2]? = none := by rcases hend with h | h; rw [hx] at h; cases h; exact h
    refine wpAny_bind (nextOf_tup_item (h1.extBut hs₁.extBut D.i1z) (hl1.extBut hs₁.extBut D.l1z) hx fun h₂ h1₂ hs₂ => wpAny_pure ?_)
    have hTO₂ : IsPair h₂ TO a b := hs₂.extBut _ _ D.TOi1 (hs₁.extBut _ _ D.TOz hTO)
    refine wpAny_bind (wpAny_seqItems hTO₂ rfl ?_)
    refine wpAny_bind (wpAny_updateSeq_pair hTO₂ fun h₃ hTO₃ hs₃ => ?_)
    refine wpAny_bind (wpAny_letGo (wpAny_pure ?_))
    refine wpAny_bind (wpAny_bind (wpAny_onRaise ?_))
    show wpAny _ _ (Builtin.SmallTypes.nextOf (.ref i2) >>= _) _ _ _
    refine wpAny_bind (wpAny_nextOf_list_end hh (((h2.extBut hs₁.extBut D.i2z).extBut hs₂.extBut D.i12.symm).extBut hs₃.extBut D.TOi2.symm)
      (((hl2.extBut hs₁.extBut D.l2z).extBut hs₂.extBut D.l2i1).extBut hs₃.extBut D.l2TO) hy fun h₄ e hs₄ he => ?_)
    obtain ⟨oe, hoe, hce⟩ := he
    have hz₄ : IsZip h₄ z TI TO .ellipsis := hs₄ _ _ D.i2z.symm (hs₃.extBut _ _ D.TOz.symm (hs₂.extBut _ _ D.i1z.symm hz₁))
    have hez : e ≠ z := fun x => by subst x; rw [hz₄] at hoe; cases hoe; simp at hce
    refine wpAny_setField_rec hz₄ (by simp) fun h₅ _ hs₅ => hE h₅ e (fun c o c1 c2 c3 c4 x => hs₅.extBut _ _ c1 (hs₄ _ _ c4 (hs₃.extBut _ _ c2 (hs₂.extBut _ _ c3 (hs₁.extBut _ _ c1 x))))) ⟨oe, hs₅.extBut _ _ hez hoe, hce⟩

theorem pyNext_zipT_item {z TI TO i1 i2 l1 l2 : Addr} {k1 k2 : Nat} {xs ys : Array Value} {x y a b : Value} {Q : Option Value → Shared → Prop} (D : ZipApart z TI TO i1 i2 l1 l2)
    (hz : IsZip s.heap z TI TO .none) (hTI : IsPair s.heap TI (.ref i1) (.ref i2)) (hTO : IsPair s.heap TO a b)
    (h1 : s.heap.IsTupleIter i1 l1 k1) (h2 : s.heap.IsListIter i2 l2 k2) (hl1 : s.heap.IsTuple l1 xs) (hl2 : s.heap.IsList l2 ys) (hx : xs[k1]? = some x) (hy : ys[k2]? = some y)
    (hQ : ∀ h', IsZip h' z TI TO (rawInt s.heap.objs.size) → IsPair h' TO x y → h'.IsTupleIter i1 l1 (k1 + 1) → h'.IsListIter i2 l2 (k2 + 1) → IsPair h' s.heap.objs.size x y → h'.objs.size = s.heap.objs.size + 1 →
      (∀ c o, c ≠ z → c ≠ TO → c ≠ i1 → c ≠ i2 → s.heap.get? c = some o → h'.get? c = some o) → Q (some (.ref s.heap.objs.size)) { s with heap := h' }) :
    wpAny (model prog w) A (pyNext (.ref z)) Q E s := by
  have hT : s.TypeIs (.ref z) "zip" := ⟨_, hz, rfl⟩
  unfold pyNext
  exact wpAny_bind (wpAny_attempt (wpAny_callSpecial?_slot (name := Str.ofString "__next__") hT F.slot_zip_next
    (wpAny_call_entry F.slot_zip_next hT F.entry_zip_next
      (zipT_next_item D hz hTI hTO h1 h2 hl1 hl2 hx hy fun h' a1 a2 a3 a4 a5 a6 a7 => wpAny_pure (hQ h' a1 a2 a3 a4 a5 a6 a7)) (F.args_zip_next_1 _))))

theorem pyNext_zipT_end {z TI TO i1 i2 l1 l2 : Addr} {k1 k2 : Nat} {xs ys : Array Value} {a b : Value} {Q : Option Value → Shared → Prop} (hh : A.handled = none) (D : ZipApart z TI TO i1 i2 l1 l2)
    (hz : IsZip s.heap z TI TO .none) (hTI : IsPair s.heap TI (.ref i1) (.ref i2)) (hTO : IsPair s.heap TO a b)
    (h1 : s.heap.IsTupleIter i1 l1 k1) (h2 : s.heap.IsListIter i2 l2 k2) (hl1 : s.heap.IsTuple l1 xs) (hl2 : s.heap.IsList l2 ys) (hend : xs[k1]? = none ∨ ys[k2]? = none)
    (hQ : ∀ h', (∀ c o, c ≠ z → c ≠ TO → c ≠ i1 → c ≠ i2 → s.heap.get? c = some o → h'.get? c = some o) → Q none { s with heap := h' }) : wpAny (model prog w) A (pyNext (.ref z)) Q E s := by
  have hT : s.TypeIs (.ref z) "zip" := ⟨_, hz, rfl⟩
  unfold pyNext
  refine wpAny_bind (wpAny_attempt (wpAny_callSpecial?_slot (name := Str.ofString "__next__") hT F.slot_zip_next
    (wpAny_call_entry F.slot_zip_next hT F.entry_zip_next (zipT_next_end hh D hz hTI hTO h1 h2 hl1 hl2 hend fun h' e hk he => ?_) (F.args_zip_next_1 _))))
  obtain ⟨o, ho, hc⟩ := he
  refine wpAny_bind (wpAny_isInstance (T := "StopIteration") (b := true) ⟨o, ho, hc⟩ isSubtype_stop ?_)
  exact wpAny_pure (hQ _ hk)

end
abbrev zipTH1 (h : Heap) (l1 : Addr) : Heap := h.push { cls := .type "tuple_iterator", data := .fields #[.ref l1, .int 0 0] }
abbrev zipTH2 (h : Heap) (l1 l2 : Addr) : Heap := (zipTH1 h l1).push { cls := .type "list_iterator", data := .fields #[.ref l2, .int 0 0] }
abbrev zipTH3 (h : Heap) (l1 l2 : Addr) : Heap := (zipTH2 h l1 l2).push { cls := .type "tuple", data := .seq #[.ref h.objs.size, .ref (zipTH1 h l1).objs.size] }
abbrev zipTH4 (h : Heap) (l1 l2 : Addr) : Heap := (zipTH3 h l1 l2).push { cls := .type "tuple", data := .seq #[.none, .none] }
abbrev zipTH5 (h : Heap) (l1 l2 : Addr) : Heap := (zipTH4 h l1 l2).push { cls := .type "zip", data := .fields #[.none, .bool false, .bool false, .ref (zipTH2 h l1 l2).objs.size, .ref (zipTH3 h l1 l2).objs.size] }

theorem meets_zipT_new (l1 l2 : Addr) (xs ys : Array Value) :
    Meets (Builtin.«zip.__new__» ⟨[.type "zip", .ref l1, .ref l2], []⟩) (fun _ R s => s.heap.IsTuple l1 xs ∧ s.heap.IsList l2 ys ∧
      R (.ok (.ret (.ref (zipTH4 s.heap l1 l2).objs.size))) { s with heap := zipTH5 s.heap l1 l2 }) :=
  .of_wp fun prog w A R s h => by
    obtain ⟨hp, g, d, tk, os⟩ := s; obtain ⟨hl1, hl2, h⟩ := h
    have hsub := sub_zip
    have hL1 : Heap.IsTuple (Shared.heap ⟨hp, g, d, tk, os⟩) l1 xs := hl1
    have hL2 : Heap.IsList (Shared.heap ⟨hp.push { cls := .type "tuple_iterator", data := .fields #[.ref l1, .int 0 0] }, g, d, tk, os⟩) l2 ys := Heap.IsList.push hl2 _
    wp_walk using wpAny_pyIter_tuple hL1, wpAny_pyIter_list hL2
    exact ⟨_, rfl, h⟩

section
variable {prog : Program} {w : World} {A : Around} {E : Value → Shared → Prop} {s : Shared}
theorem call_zipT {l1 l2 : Addr} {xs ys : Array Value} {Q : Value → Shared → Prop} (hl1 : s.heap.IsTuple l1 xs) (hl2 : s.heap.IsList l2 ys)
    (h : ∀ h', IsZip h' (s.heap.objs.size + 4) (s.heap.objs.size + 2) (s.heap.objs.size + 3) .none → IsPair h' (s.heap.objs.size + 2) (.ref s.heap.objs.size) (.ref (s.heap.objs.size + 1)) →
      IsPair h' (s.heap.objs.size + 3) .none .none → h'.IsTupleIter s.heap.objs.size l1 0 → h'.IsListIter (s.heap.objs.size + 1) l2 0 → h'.objs.size = s.heap.objs.size + 5 →
      (∀ c o, s.heap.get? c = some o → h'.get? c = some o) → Q (.ref (s.heap.objs.size + 4)) { s with heap := h' }) :
    wpAny (model prog w) A (call (.type "zip") [.ref l1, .ref l2]) Q E s := by
  refine callType_new F.called_zip (by decide) (F.typeCall_zip_2 _ _) (F.newCall_zip_2 _ _) (fun obj => F.args_object_init_3 obj _ _) F.entry_zip_new
    (meets_zipT_new l1 l2 xs ys) ⟨hl1, hl2, ?_⟩
  have z1 : (zipTH1 s.heap l1).objs.size = s.heap.objs.size + 1 := Heap.size_push ..
  have z2 : (zipTH2 s.heap l1 l2).objs.size = s.heap.objs.size + 2 := by rw [Heap.size_push, z1]
  have z3 : (zipTH3 s.heap l1 l2).objs.size = s.heap.objs.size + 3 := by rw [Heap.size_push, z2]
  have z4 : (zipTH4 s.heap l1 l2).objs.size = s.heap.objs.size + 4 := by rw [Heap.size_push, z3]
  have z5 : (zipTH5 s.heap l1 l2).objs.size = s.heap.objs.size + 5 := by rw [Heap.size_push, z4]
  have g5 : (zipTH5 s.heap l1 l2).get? (zipTH4 s.heap l1 l2).objs.size = some _ := Heap.get?_push_size _ rfl
  have g4 : (zipTH5 s.heap l1 l2).get? (zipTH3 s.heap l1 l2).objs.size = some _ := Heap.get?_push_of_some _ (Heap.get?_push_size _ rfl)
  have g3 : (zipTH5 s.heap l1 l2).get? (zipTH2 s.heap l1 l2).objs.size = some _ := Heap.get?_push_of_some _ (Heap.get?_push_of_some _ (Heap.get?_push_size _ rfl))
  have g2 : (zipTH5 s.heap l1 l2).get? (zipTH1 s.heap l1).objs.size = some _ := Heap.get?_push_of_some _ (Heap.get?_push_of_some _ (Heap.get?_push_of_some _ (Heap.get?_push_size _ rfl)))
  have g1 : (zipTH5 s.heap l1 l2).get? s.heap.objs.size = some _ := Heap.get?_push_of_some _ (Heap.get?_push_of_some _ (Heap.get?_push_of_some _ (Heap.get?_push_of_some _ (Heap.get?_push_size _ rfl))))
  show _ ∧ _
  rw [z2, z3, z4] at g5
  rw [z1, z2] at g3
  rw [z3] at g4
  rw [z1] at g2
  rw [z4]
  exact ⟨⟨_, g5, rfl⟩, h _ g5 g3 g4 ⟨_, g1, rfl, rfl⟩ ⟨_, g2, rfl, rfl⟩ z5 fun c o x =>
    Heap.get?_push_of_some _ (Heap.get?_push_of_some _ (Heap.get?_push_of_some _ (Heap.get?_push_of_some _ (Heap.get?_push_of_some _ x))))⟩

theorem walksT_zipT (hh : A.handled = none) (z TI TO i1 i2 l1 l2 : Addr) (D : ZipApart z TI TO i1 i2 l1 l2) (xs ys : Array Value) :
    WalksT prog w A z [z, TI, TO, i1, i2, l1, l2] [z, TO, i1, i2] (min xs.size ys.size)
      (fun i vals => ∃ x y, xs[i]? = some x ∧ ys[i]? = some y ∧ vals = #[x, y])
      (fun i h => IsZip h z TI TO .none ∧ IsPair h TI (.ref i1) (.ref i2) ∧ (∃ a b, IsPair h TO a b) ∧ h.IsTupleIter i1 l1 i ∧ h.IsListIter i2 l2 i ∧ h.IsTuple l1 xs ∧ h.IsList l2 ys)
      (fun i T h => IsZip h z TI TO (rawInt T) ∧ IsPair h TI (.ref i1) (.ref i2) ∧ (∃ a b, IsPair h TO a b) ∧ h.IsTupleIter i1 l1 (i + 1) ∧ h.IsListIter i2 l2 (i + 1) ∧ h.IsTuple l1 xs ∧ h.IsList l2 ys ∧
        T ≠ z ∧ T ≠ TO ∧ T ≠ i1 ∧ T ≠ i2) where
  sub := fun c hc => by simp at hc ⊢; rcases hc with rfl | rfl | rfl | rfl <;> simp
  frame := fun i h h' hst hk => by
    obtain ⟨hz, hTI, ⟨a, b, hTO⟩, h1, h2, hl1, hl2⟩ := hst
    exact ⟨hk z (by simp) _ hz, hk TI (by simp) _ hTI, ⟨a, b, hk TO (by simp) _ hTO⟩, tupIter_at h1 fun o e => hk i1 (by simp) o e, h2.at fun o e => hk i2 (by simp) o e,
      tup_at hl1 fun o e => hk l1 (by simp) o e, hl2.at fun o e => hk l2 (by simp) o e⟩
  item := fun i s Q E hi hst hQ => by
    obtain ⟨hz, hTI, ⟨a, b, hTO⟩, h1, h2, hl1, hl2⟩ := hst
    have hix : i < xs.size := Nat.lt_of_lt_of_le hi (Nat.min_le_left ..)
    have hiy : i < ys.size := Nat.lt_of_lt_of_le hi (Nat.min_le_right ..)
    refine pyNext_zipT_item D hz hTI hTO h1 h2 hl1 hl2 (Array.getElem?_eq_getElem hix) (Array.getElem?_eq_getElem hiy) fun h' a1 a2 a3 a4 a5 a6 hk => ?_
    have lt : ∀ {c o}, s.heap.get? c = some o → s.heap.objs.size ≠ c := fun e => Nat.ne_of_gt (Heap.lt_size e)
    exact hQ s.heap.objs.size #[xs[i], ys[i]] h' s.toks ⟨_, _, Array.getElem?_eq_getElem hix, Array.getElem?_eq_getElem hiy, rfl⟩ (Nat.le_refl _) ⟨_, a5, rfl, _, rfl⟩
      ⟨a1, hk _ _ D.TIz D.TITO D.TIi1 D.TIi2 hTI, ⟨_, _, a2⟩, a3, a4, tup_at hl1 fun o e => hk _ o D.l1z D.l1TO D.l1i1 D.l1i2 e, hl2.at fun o e => hk _ o D.l2z D.l2TO D.l2i1 D.l2i2 e,
        lt hz, lt hTO, (by obtain ⟨_, e, _⟩ := h1; exact lt e), (by obtain ⟨_, e, _⟩ := h2; exact lt e)⟩
      fun c o hc e => hk c o (fun x => hc (by simp [x])) (fun x => hc (by simp [x])) (fun x => hc (by simp [x])) (fun x => hc (by simp [x])) e
  go := fun elts k pos i T s Q E hm hQ => by
    obtain ⟨hz, hTI, ⟨a, b, hTO⟩, h1, h2, hl1, hl2, _⟩ := hm
    refine wpAny_letOwnedTupleGo_zip hz fun h' hz' hs' => hQ h' ⟨hz', hs'.extBut _ _ D.TIz hTI, ⟨a, b, hs'.extBut _ _ D.TOz hTO⟩, h1.extBut hs'.extBut D.i1z, h2.extBut hs'.extBut D.i2z,
      hl1.extBut hs'.extBut D.l1z, hl2.extBut hs'.extBut D.l2z⟩ fun c o hc e => hs'.extBut _ _ (fun x => hc (by simp [x])) e
  apart := fun i T h hm hT => by
    obtain ⟨_, _, _, _, _, _, _, t1, t2, t3, t4⟩ := hm
    simp at hT
    rcases hT with rfl | rfl | rfl | rfl
    · exact t1 rfl
    · exact t2 rfl
    · exact t3 rfl
    · exact t4 rfl
  done := fun s Q E hst hQ => by
    obtain ⟨hz, hTI, ⟨a, b, hTO⟩, h1, h2, hl1, hl2⟩ := hst
    have hend : xs[min xs.size ys.size]? = none ∨ ys[min xs.size ys.size]? = none := by
      rcases Nat.le_total xs.size ys.size with h | h
      · exact .inl (by rw [Nat.min_eq_left h]; exact Array.getElem?_eq_none (Nat.le_refl _))
      · exact .inr (by rw [Nat.min_eq_right h]; exact Array.getElem?_eq_none (Nat.le_refl _))
    exact pyNext_zipT_end hh D hz hTI hTO h1 h2 hl1 hl2 hend fun h' hk => hQ h' s.toks fun c o hc e =>
      hk c o (fun x => hc (by simp [x])) (fun x => hc (by simp [x])) (fun x => hc (by simp [x])) (fun x => hc (by simp [x])) e
  self := fun i s Q E hst hQ => wpAny_pyIter_zip hst.1 hQ

end
end Mine
end
section -- Kzip2
theorem Mine.wTopOff21 : True := by w_top off; trivial
local macro_rules | `(tactic| walk_at "no such line") => `(tactic| fail)
local macro_rules | `(tactic| walk_at "no such line") => `(tactic| fail)
local macro_rules | `(tactic| walk_at "no such line") => `(tactic| fail)
local macro_rules | `(tactic| walk_at "no such line") => `(tactic| fail)
local macro_rules | `(tactic| walk_at "no such line") => `(tactic| fail)
local macro_rules | `(tactic| walk_at "no such line") => `(tactic| fail)
local macro_rules | `(tactic| walk_at "no such line") => `(tactic| fail)
local macro_rules | `(tactic| walk_at "no such line") => `(tactic| fail)
local macro_rules | `(tactic| walk_at "no such line") => `(tactic| fail)
local macro_rules | `(tactic| walk_at "no such line") => `(tactic| fail)
local macro_rules | `(tactic| walk_at "no such line") => `(tactic| fail)
local macro_rules | `(tactic| walk_at "no such line") => `(tactic| fail)
local macro_rules | `(tactic| walk_at "no such line") => `(tactic| fail)
local macro_rules | `(tactic| walk_at "no such line") => `(tactic| fail)
local macro_rules | `(tactic| walk_at "no such line") => `(tactic| fail)
local macro_rules | `(tactic| walk_at "no such line") => `(tactic| fail)
local macro_rules | `(tactic| walk_at "no such line") => `(tactic| fail)
local macro_rules | `(tactic| walk_at "no such line") => `(tactic| fail)
local macro_rules | `(tactic| walk_at "no such line") => `(tactic| fail)
local macro_rules | `(tactic| walk_at "no such line") => `(tactic| fail)
local macro_rules | `(tactic| walk_at "no such line") => `(tactic| fail)
local macro_rules | `(tactic| walk_at "no such line") => `(tactic| fail)
local macro_rules | `(tactic| walk_at "no such line") => `(tactic| fail)
local macro_rules | `(tactic| walk_at "no such line") => `(tactic| fail)
local macro_rules | `(tactic| walk_at "no such line") => `(tactic| fail)
local macro_rules | `(tactic| walk_at "no such line") => `(tactic| fail)
local macro_rules | `(tactic| walk_at "no such line") => `(tactic| fail)
local macro_rules | `(tactic| walk_at "no such line") => `(tactic| fail)
local macro_rules | `(tactic| walk_at "no such line") => `(tactic| fail)
local macro_rules | `(tactic| walk_at "no such line") => `(tactic| fail)
local macro_rules | `(tactic| walk_at "no such line") => `(tactic| fail)
local macro_rules | `(tactic| walk_at "no such line") => `(tactic| fail)
local macro_rules | `(tactic| walk_at "no such line") => `(tactic| fail)
local macro_rules | `(tactic| walk_at "no such line") => `(tactic| fail)
local macro_rules | `(tactic| walk_at "no such line") => `(tactic| fail)
local macro_rules | `(tactic| walk_at "no such line") => `(tactic| fail)
local macro_rules | `(tactic| walk_at "no such line") => `(tactic| fail)
local macro_rules | `(tactic| walk_at "no such line") => `(tactic| fail)
local macro_rules | `(tactic| walk_at "no such line") => `(tactic| fail)
local macro_rules | `(tactic| walk_at "no such line") => `(tactic| fail)
local macro_rules | `(tactic| walk_at "no such line") => `(tactic| fail)
local macro_rules | `(tactic| walk_at "no such line") => `(tactic| fail)
local macro_rules | `(tactic| walk_at "no such line") => `(tactic| fail)
local macro_rules | `(tactic| walk_at "no such line") => `(tactic| fail)
local macro_rules | `(tactic| walk_at "no such line") => `(tactic| fail)
local macro_rules | `(tactic| walk_at "no such line") => `(tactic| fail)
local macro_rules | `(tactic| walk_at "no such line") => `(tactic| fail)
local macro_rules | `(tactic| walk_at "no such line") => `(tactic| fail)
local macro_rules | `(tactic| walk_at "no such line") => `(tactic| fail)
local macro_rules | `(tactic| walk_at "no such line") => `(tactic| fail)
open PySem PySem.W PySem.Calls PyProof.Rows
namespace Mine
section
variable {prog : Program} {w : World} {A : Around} {E : Value → Shared → Prop} {s : Shared} {env : Env} {h₀ : Heap} {target : Expr} {body : List Stmt} {Q : Flow → Shared → Prop}
theorem ktuT_zip {elts : List Expr} {k : Nat} {pos : Pos} {l1 l2 : Addr} {lo1 lo2 : Obj} {xs ys : List Value} {n1 n2 : Nat} {m₀ : Str → Option Value} {news : List (Addr × Obj)}
    (hh : A.handled = none) (F : Fr h₀ env.locals s.heap m₀) (N : News h₀ env.locals s.heap news) (hm1 : (l1, lo1) ∈ news) (hc1 : lo1.cls = .type "tuple") (hd1 : lo1.data = .seq xs.toArray n1) (hm2 : (l2, lo2) ∈ news) (hc2 : lo2.cls = .type "list") (hd2 : lo2.data = .seq ys.toArray n2)
    (rest₀ : ∀ I : Addr, (∀ p ∈ news, p.1 < I) → ItemsRest prog w A E h₀ env (.Tuple elts k pos) body Q s [(I + 4, "zip"), (I + 2, "tuple"), (I + 3, "tuple"), (I, "tuple_iterator"), (I + 1, "list_iterator")] [(l1, lo1), (l2, lo2)] (zipItems xs ys) m₀ news) :
    wpAny (model prog w) A (call (.type "zip") [.ref l1, .ref l2]) (fun xv s₁ => wpAny (model prog w) A (pyIter xv) (fun it s₂ => TurnsAt prog w A h₀ env (.Tuple elts k pos) body Q E it s₂) E s₁) E s := by
  have hax1 := N _ hm1
  have hax2 := N _ hm2
  have hl1 : s.heap.IsTuple l1 xs.toArray := ⟨lo1, hax1.1, hc1, n1, hd1⟩
  have hl2 : s.heap.IsList l2 ys.toArray := ⟨lo2, hax2.1, hc2, n2, hd2⟩
  have hlt1 : l1 < s.heap.objs.size := Heap.lt_size hax1.1
  have hlt2 : l2 < s.heap.objs.size := Heap.lt_size hax2.1
  have hLs : env.locals < s.heap.objs.size := F.ns.lt
  have D : ZipApart (s.heap.objs.size + 4) (s.heap.objs.size + 2) (s.heap.objs.size + 3) s.heap.objs.size (s.heap.objs.size + 1) l1 l2 := ktu_apart _ _ _ hlt1 hlt2
  refine call_zipT hl1 hl2 fun h' hz hTI hTO hi1 hi2 hsz hk => ?_
  refine wpAny_pyIter_zip hz ?_
  refine ktu_core (tk0 := s.toks) (keep := [(l1, lo1), (l2, lo2)]) (KTurns.ofWalksU (walksT_zipT hh _ _ _ _ _ _ _ D xs.toArray ys.toArray).toU) (by simp [zipItems_length]) ?_ ?_ ?_ ?_ ?_ ?_ ?_ ?_ (F.keeps hk) (N.grown hk) (And.intro hm1 (And.intro hm2 trivial)) (rest₀ _ fun p hp => Heap.lt_size (N p hp).1)
  · rintro i v h ⟨T, vals, rfl, ⟨x, y, hx, hy, rfl⟩, hT⟩
    exact ⟨_, zipItems_get xs ys i (x := x) (y := y) (by simpa using hx) (by simpa using hy), T, 0, rfl, hT⟩
  · rintro i h ⟨hz, hTI, ⟨a, b, hTO⟩, ⟨o1, ho1, hc1, _⟩, ⟨o2, ho2, hc2, _⟩, _⟩
    have e1 : ∃ o : Obj, h.get? (s.heap.objs.size + 4) = some o ∧ o.cls = .type "zip" := ⟨_, hz, rfl⟩
    have e2 : ∃ o : Obj, h.get? (s.heap.objs.size + 2) = some o ∧ o.cls = .type "tuple" := ⟨_, hTI, rfl⟩
    have e3 : ∃ o : Obj, h.get? (s.heap.objs.size + 3) = some o ∧ o.cls = .type "tuple" := ⟨_, hTO, rfl⟩
    obtain ⟨q1, g1, k1⟩ := e1
    obtain ⟨q2, g2, k2⟩ := e2
    obtain ⟨q3, g3, k3⟩ := e3
    refine ⟨[(s.heap.objs.size + 4, q1), (s.heap.objs.size + 2, q2), (s.heap.objs.size + 3, q3), (s.heap.objs.size, o1), (s.heap.objs.size + 1, o2)], ⟨⟨rfl, k1⟩, ⟨rfl, k2⟩, ⟨rfl, k3⟩, ⟨rfl, hc1⟩, ⟨rfl, hc2⟩, trivial⟩, fun p hp => ?_⟩
    rcases List.mem_cons.mp hp with rfl | hp
    · exact g1
    rcases List.mem_cons.mp hp with rfl | hp
    · exact g2
    rcases List.mem_cons.mp hp with rfl | hp
    · exact g3
    rcases List.mem_cons.mp hp with rfl | hp
    · exact ho1
    rw [List.mem_singleton.mp hp]
    exact ho2
  · intro b hb
    have hb' : b = s.heap.objs.size + 4 ∨ b = s.heap.objs.size + 2 ∨ b = s.heap.objs.size + 3 ∨ b = s.heap.objs.size ∨ b = s.heap.objs.size + 1 := by simpa using hb
    rcases hb' with rfl | rfl | rfl | rfl | rfl
    · exact ⟨by simp, ktu_new F (Nat.le_add_right _ _)⟩
    · exact ⟨by simp, ktu_new F (Nat.le_add_right _ _)⟩
    · exact ⟨by simp, ktu_new F (Nat.le_add_right _ _)⟩
    · exact ⟨by simp, ktu_new F (Nat.le_refl _)⟩
    · exact ⟨by simp, ktu_new F (Nat.le_add_right _ _)⟩
  · intro b hb
    have hb' : b = s.heap.objs.size + 4 ∨ b = s.heap.objs.size + 3 ∨ b = s.heap.objs.size ∨ b = s.heap.objs.size + 1 := by simpa using hb
    rcases hb' with rfl | rfl | rfl | rfl <;> simp
  · intro b hb
    have hb' : b = s.heap.objs.size + 4 ∨ b = s.heap.objs.size + 2 ∨ b = s.heap.objs.size + 3 ∨ b = s.heap.objs.size ∨ b = s.heap.objs.size + 1 ∨ b = l1 ∨ b = l2 := by simpa using hb
    rcases hb' with rfl | rfl | rfl | rfl | rfl | rfl | rfl
    · exact .inl (by simp)
    · exact .inl (by simp)
    · exact .inl (by simp)
    · exact .inl (by simp)
    · exact .inl (by simp)
    · exact .inr ⟨lo1, by simp⟩
    · exact .inr ⟨lo2, by simp⟩
  · intro hI'
    have hb' : env.locals = s.heap.objs.size + 4 ∨ env.locals = s.heap.objs.size + 2 ∨ env.locals = s.heap.objs.size + 3 ∨ env.locals = s.heap.objs.size ∨ env.locals = s.heap.objs.size + 1 ∨ env.locals = l1 ∨ env.locals = l2 := by simpa using hI'
    have n1 := hax1.2.1
    have n2 := hax2.2.1
    rcases hb' with e | e | e | e | e | e | e
    · exact ktu_ne 4 hLs e
    · exact ktu_ne 2 hLs e
    · exact ktu_ne 3 hLs e
    · exact Nat.ne_of_lt hLs e
    · exact ktu_ne 1 hLs e
    · exact n1 e.symm
    · exact n2 e.symm
  · intro p hp hI'
    have hb' : p.1 = s.heap.objs.size + 4 ∨ p.1 = s.heap.objs.size + 3 ∨ p.1 = s.heap.objs.size ∨ p.1 = s.heap.objs.size + 1 := by simpa using hI'
    have hlp := Heap.lt_size (N p hp).1
    rcases hb' with e | e | e | e
    · exact ktu_ne 4 hlp e
    · exact ktu_ne 3 hlp e
    · exact Nat.ne_of_lt hlp e
    · exact ktu_ne 1 hlp e
  · exact ⟨hz, hTI, ⟨_, _, hTO⟩, hi1, hi2, tup_at hl1 fun o e => hk l1 o e, hl2.at fun o e => hk l2 o e⟩
end
end Mine
end
section -- Khsv
theorem Mine.wTopOff22 : True := by w_top off; trivial
local macro_rules | `(tactic| walk_at "eval BinOp") => `(tactic| (k_here; k_dflt (refine' Mine.pev_ok ?F ?e ?c ?k ?_; (case F => k_asm); (case e => exact rfl); (case c => (repeat (first | exact trivial | refine And.intro (by mul_fits) ?_))); (case k => rfl); k_whole)))
local macro_rules | `(tactic| walk_at "spliced") => `(tactic| (k_here; k_dflt (refine' Mine.args_ok ?F ?k ?e ?c ?_; (case F => k_asm); (case k => rfl); (case e => exact rfl); (case c => (repeat (first | exact trivial | refine And.intro (by mul_fits) ?_))); k_whole)))
local macro_rules | `(tactic| walk_at "isTrue Compare") => `(tactic| (k_here; k_dflt (refine' Mine.cmp_ok ?F ?e ?c ?k ?n ?_; (case F => k_asm); (case e => exact rfl); (case c => (repeat (first | exact trivial | refine And.intro (by mul_fits) ?_))); (case k => rfl); (case n => rfl); k_whole)))
local macro_rules | `(tactic| walk_at "exec Assign") => `(tactic| (k_here; k_dflt (refine' Mine.assign_ok ?F ?N ?e ?c ?k ?x ?s ?_; (case F => k_asm); (case N => k_asm); (case e => exact rfl); (case c => (repeat (first | exact trivial | refine And.intro (by mul_fits) ?_))); (case k => rfl); (case x => rfl); (case s => rfl); k_whole; intro h' m' F' N'; (try k_sweep))))
local macro_rules | `(tactic| walk_at "exec Return some") => `(tactic| (k_here; k_dflt (refine' Mine.ret_ok ?F ?e ?c ?k ?_; (case F => k_asm); (case e => exact rfl); (case c => (repeat (first | exact trivial | refine And.intro (by mul_fits) ?_))); (case k => rfl); k_whole)))
local macro_rules | `(tactic| walk_at "storeName") => `(tactic| (k_here; k_dflt (refine' Mine.storeY_L ?F ?N ?_ ?a ?b; (case F => k_asm); (case N => k_asm); (case a => rfl); (case b => rfl); k_whole; intro h' m' F' N'; (try k_sweep))))
local macro_rules | `(tactic| k_steps) => `(tactic| repeat' (first | dsimp only | (k_unfold; (try dsimp only)) | (k_end; wrow_close) | walk1 | (dsimp only; walk1) | (leave1; walk_say "STEP leave1"; try dsimp only) | fail "no step"))
local macro_rules | `(tactic| k_ne) => `(tactic| (refine PySem.W.neN ?_; (try dsimp only); first
  | with_reducible assumption
  | ((with_reducible refine Nat.ne_of_lt ?_); (repeat with_reducible refine Mine.nzLT ?_); (first | with_reducible assumption | exact Mine.nzA1 (by with_reducible assumption) | exact Mine.nzA2 (by with_reducible assumption) | exact Mine.nzZ2 (by with_reducible assumption) | exact Mine.nzA3 (by with_reducible assumption) | exact Mine.nzZ3 (by with_reducible assumption) | exact Mine.nzA4 (by with_reducible assumption) | exact Mine.nzZ4 (by with_reducible assumption) | exact Mine.nzA5 (by with_reducible assumption) | exact Mine.nzZ5 (by with_reducible assumption) | exact Mine.nzA6 (by with_reducible assumption) | exact Mine.nzZ6 (by with_reducible assumption) | exact Mine.nzA7 (by with_reducible assumption) | exact Mine.nzZ7 (by with_reducible assumption) | exact Mine.nzA8 (by with_reducible assumption) | exact Mine.nzZ8 (by with_reducible assumption) | exact Mine.nzA9 (by with_reducible assumption) | exact Mine.nzZ9 (by with_reducible assumption) | exact Mine.nzA10 (by with_reducible assumption) | exact Mine.nzZ10 (by with_reducible assumption) | exact Mine.nzA11 (by with_reducible assumption) | exact Mine.nzZ11 (by with_reducible assumption) | exact Mine.nzA12 (by with_reducible assumption) | exact Mine.nzZ12 (by with_reducible assumption) | exact Mine.nzA13 (by with_reducible assumption) | exact Mine.nzZ13 (by with_reducible assumption) | exact Mine.nzA14 (by with_reducible assumption) | exact Mine.nzZ14 (by with_reducible assumption) | exact Mine.nzA15 (by with_reducible assumption) | exact Mine.nzZ15 (by with_reducible assumption) | exact Mine.nzA16 (by with_reducible assumption) | exact Mine.nzZ16 (by with_reducible assumption)))
  | ((with_reducible refine Nat.ne_of_gt ?_); (repeat with_reducible refine Mine.nzLT ?_); (first | with_reducible assumption | exact Mine.nzA1 (by with_reducible assumption) | exact Mine.nzA2 (by with_reducible assumption) | exact Mine.nzZ2 (by with_reducible assumption) | exact Mine.nzA3 (by with_reducible assumption) | exact Mine.nzZ3 (by with_reducible assumption) | exact Mine.nzA4 (by with_reducible assumption) | exact Mine.nzZ4 (by with_reducible assumption) | exact Mine.nzA5 (by with_reducible assumption) | exact Mine.nzZ5 (by with_reducible assumption) | exact Mine.nzA6 (by with_reducible assumption) | exact Mine.nzZ6 (by with_reducible assumption) | exact Mine.nzA7 (by with_reducible assumption) | exact Mine.nzZ7 (by with_reducible assumption) | exact Mine.nzA8 (by with_reducible assumption) | exact Mine.nzZ8 (by with_reducible assumption) | exact Mine.nzA9 (by with_reducible assumption) | exact Mine.nzZ9 (by with_reducible assumption) | exact Mine.nzA10 (by with_reducible assumption) | exact Mine.nzZ10 (by with_reducible assumption) | exact Mine.nzA11 (by with_reducible assumption) | exact Mine.nzZ11 (by with_reducible assumption) | exact Mine.nzA12 (by with_reducible assumption) | exact Mine.nzZ12 (by with_reducible assumption) | exact Mine.nzA13 (by with_reducible assumption) | exact Mine.nzZ13 (by with_reducible assumption) | exact Mine.nzA14 (by with_reducible assumption) | exact Mine.nzZ14 (by with_reducible assumption) | exact Mine.nzA15 (by with_reducible assumption) | exact Mine.nzZ15 (by with_reducible assumption) | exact Mine.nzA16 (by with_reducible assumption) | exact Mine.nzZ16 (by with_reducible assumption)))
  | ((repeat with_reducible refine Mine.nzSS ?_); (first | with_reducible refine Mine.nzS0 ?_ | with_reducible refine Mine.nz0S ?_); (repeat (first | with_reducible exact Nat.le_refl _ | with_reducible refine Mine.nzLS ?_)); done)
  | (first | with_reducible assumption | exact Mine.nzA1 (by with_reducible assumption) | exact Mine.nzA2 (by with_reducible assumption) | exact Mine.nzZ2 (by with_reducible assumption) | exact Mine.nzA3 (by with_reducible assumption) | exact Mine.nzZ3 (by with_reducible assumption) | exact Mine.nzA4 (by with_reducible assumption) | exact Mine.nzZ4 (by with_reducible assumption) | exact Mine.nzA5 (by with_reducible assumption) | exact Mine.nzZ5 (by with_reducible assumption) | exact Mine.nzA6 (by with_reducible assumption) | exact Mine.nzZ6 (by with_reducible assumption) | exact Mine.nzA7 (by with_reducible assumption) | exact Mine.nzZ7 (by with_reducible assumption) | exact Mine.nzA8 (by with_reducible assumption) | exact Mine.nzZ8 (by with_reducible assumption) | exact Mine.nzA9 (by with_reducible assumption) | exact Mine.nzZ9 (by with_reducible assumption) | exact Mine.nzA10 (by with_reducible assumption) | exact Mine.nzZ10 (by with_reducible assumption) | exact Mine.nzA11 (by with_reducible assumption) | exact Mine.nzZ11 (by with_reducible assumption) | exact Mine.nzA12 (by with_reducible assumption) | exact Mine.nzZ12 (by with_reducible assumption) | exact Mine.nzA13 (by with_reducible assumption) | exact Mine.nzZ13 (by with_reducible assumption) | exact Mine.nzA14 (by with_reducible assumption) | exact Mine.nzZ14 (by with_reducible assumption) | exact Mine.nzA15 (by with_reducible assumption) | exact Mine.nzZ15 (by with_reducible assumption) | exact Mine.nzA16 (by with_reducible assumption) | exact Mine.nzZ16 (by with_reducible assumption))
  | (apply Ne.symm; (first | with_reducible assumption | exact Mine.nzA1 (by with_reducible assumption) | exact Mine.nzA2 (by with_reducible assumption) | exact Mine.nzZ2 (by with_reducible assumption) | exact Mine.nzA3 (by with_reducible assumption) | exact Mine.nzZ3 (by with_reducible assumption) | exact Mine.nzA4 (by with_reducible assumption) | exact Mine.nzZ4 (by with_reducible assumption) | exact Mine.nzA5 (by with_reducible assumption) | exact Mine.nzZ5 (by with_reducible assumption) | exact Mine.nzA6 (by with_reducible assumption) | exact Mine.nzZ6 (by with_reducible assumption) | exact Mine.nzA7 (by with_reducible assumption) | exact Mine.nzZ7 (by with_reducible assumption) | exact Mine.nzA8 (by with_reducible assumption) | exact Mine.nzZ8 (by with_reducible assumption) | exact Mine.nzA9 (by with_reducible assumption) | exact Mine.nzZ9 (by with_reducible assumption) | exact Mine.nzA10 (by with_reducible assumption) | exact Mine.nzZ10 (by with_reducible assumption) | exact Mine.nzA11 (by with_reducible assumption) | exact Mine.nzZ11 (by with_reducible assumption) | exact Mine.nzA12 (by with_reducible assumption) | exact Mine.nzZ12 (by with_reducible assumption) | exact Mine.nzA13 (by with_reducible assumption) | exact Mine.nzZ13 (by with_reducible assumption) | exact Mine.nzA14 (by with_reducible assumption) | exact Mine.nzZ14 (by with_reducible assumption) | exact Mine.nzA15 (by with_reducible assumption) | exact Mine.nzZ15 (by with_reducible assumption) | exact Mine.nzA16 (by with_reducible assumption) | exact Mine.nzZ16 (by with_reducible assumption)))
  | omega))
local macro_rules | `(tactic| k_lt $h:ident) => `(tactic| (replace $h := Mine.allLt1 $h; dsimp only [Mine.AllLt1, Mine.AllLtC] at $h:ident))
open PySem PySem.W PyProof.Rows
namespace Mine
set_option Elab.async false
set_option maxRecDepth 100000 in
set_option maxHeartbeats 8000000 in
theorem hsv_spec (w : World) (news : List (Addr × Obj)) (hh ss v : UInt64) (t1 t2 t3 : Tok) :
    Ctr w 8 80 49 news [.float hh t1, .float ss t2, .float v t3] ((Float64.cmp ss 0 == some Ordering.eq) = false ∧ Float64.isFinite (Float64.mul hh 4618441417868443648) = true ∧ (hsvI hh).natAbs < 1000)
      (RetT3 news (hsvR hh ss v) (hsvG hh ss v) (hsvB hh ss v)) := by
  dsimp only [Ctr, P0, LS, RetT3]
  k_fill
  intro mean mg mb dp un gd cn cs a ccd cl outer A₀ base h₀ L m s Q E B F X N T hk hpre hdp hun hret
  obtain ⟨hp1, hp2, hp3⟩ := hpre
  have hnan : Float64.isNaN (Float64.mul hh 4618441417868443648) = false := by
    cases h9 : Float64.isNaN (Float64.mul hh 4618441417868443648) with
    | false => rfl
    | true => exfalso; unfold Float64.isFinite at hp2; unfold Float64.isNaN at h9; split at h9 <;> simp_all
  have hinf : Float64.isInf (Float64.mul hh 4618441417868443648) = false := by
    cases h9 : Float64.isInf (Float64.mul hh 4618441417868443648) with
    | false => rfl
    | true => exfalso; unfold Float64.isFinite at hp2; unfold Float64.isInf at h9; split at h9 <;> simp_all
  have hbig : (Flt.toInt Float64.truncOf (Float64.mul hh 4618441417868443648)).natAbs < 2 ^ 1024 - 2 ^ 970 := Nat.lt_trans hp3 (by decide +kernel)
  have q0 : (Flt.toInt Float64.truncOf (Float64.mul hh 4618441417868443648)).fmod 6 = 0 → RetT3 news v (hsvT ss v (hsvF hh)) (hsvP ss v) h₀ L m s Q := by
    intro e; have e' : (hsvI hh).fmod 6 = 0 := e; simp only [hsvR, hsvG, hsvB, e', pick6] at hret; exact hret
  have q1 : (Flt.toInt Float64.truncOf (Float64.mul hh 4618441417868443648)).fmod 6 = 1 → RetT3 news (hsvQ ss v (hsvF hh)) v (hsvP ss v) h₀ L m s Q := by
    intro e; have e' : (hsvI hh).fmod 6 = 1 := e; simp only [hsvR, hsvG, hsvB, e', pick6] at hret; exact hret
  have q2 : (Flt.toInt Float64.truncOf (Float64.mul hh 4618441417868443648)).fmod 6 = 2 → RetT3 news (hsvP ss v) v (hsvT ss v (hsvF hh)) h₀ L m s Q := by
    intro e; have e' : (hsvI hh).fmod 6 = 2 := e; simp only [hsvR, hsvG, hsvB, e', pick6] at hret; exact hret
  have q3 : (Flt.toInt Float64.truncOf (Float64.mul hh 4618441417868443648)).fmod 6 = 3 → RetT3 news (hsvP ss v) (hsvQ ss v (hsvF hh)) v h₀ L m s Q := by
    intro e; have e' : (hsvI hh).fmod 6 = 3 := e; simp only [hsvR, hsvG, hsvB, e', pick6] at hret; exact hret
  have q4 : (Flt.toInt Float64.truncOf (Float64.mul hh 4618441417868443648)).fmod 6 = 4 → RetT3 news (hsvT ss v (hsvF hh)) (hsvP ss v) v h₀ L m s Q := by
    intro e; have e' : (hsvI hh).fmod 6 = 4 := e; simp only [hsvR, hsvG, hsvB, e', pick6] at hret; exact hret
  have q5 : (Flt.toInt Float64.truncOf (Float64.mul hh 4618441417868443648)).fmod 6 = 5 → RetT3 news v (hsvP ss v) (hsvQ ss v (hsvF hh)) h₀ L m s Q := by
    intro e; have e' : (hsvI hh).fmod 6 = 5 := e; simp only [hsvR, hsvG, hsvB, e', pick6] at hret; exact hret
  have qn : 0 ≤ (Flt.toInt Float64.truncOf (Float64.mul hh 4618441417868443648)).fmod 6 ∧ (Flt.toInt Float64.truncOf (Float64.mul hh 4618441417868443648)).fmod 6 < 6 := ⟨Int.fmod_nonneg_of_pos _ (by decide), Int.fmod_lt_of_pos _ (by decide)⟩
  clear hret
  refine wpAny_call ?_
  k_dflt cell_enter
  k_steps
  all_goals first
    | exact q0 (by assumption) _ _ _ _ _ _ (by assumption) (by assumption)
    | exact q1 (by assumption) _ _ _ _ _ _ (by assumption) (by assumption)
    | exact q2 (by assumption) _ _ _ _ _ _ (by assumption) (by assumption)
    | exact q3 (by assumption) _ _ _ _ _ _ (by assumption) (by assumption)
    | exact q4 (by assumption) _ _ _ _ _ _ (by assumption) (by assumption)
    | exact q5 (by assumption) _ _ _ _ _ _ (by assumption) (by assumption)
    | (exfalso; clear q0 q1 q2 q3 q4 q5; omega)
    | (exfalso; simp_all; done)
    | skip
end Mine
end
section -- Klhsv
theorem Mine.wTopOff23 : True := by w_top off; trivial
local macro_rules | `(tactic| walk_at "no such line") => `(tactic| fail)
local macro_rules | `(tactic| walk_at "no such line") => `(tactic| fail)
local macro_rules | `(tactic| walk_at "no such line") => `(tactic| fail)
local macro_rules | `(tactic| walk_at "no such line") => `(tactic| fail)
local macro_rules | `(tactic| walk_at "no such line") => `(tactic| fail)
local macro_rules | `(tactic| walk_at "no such line") => `(tactic| fail)
local macro_rules | `(tactic| walk_at "no such line") => `(tactic| fail)
local macro_rules | `(tactic| walk_at "no such line") => `(tactic| fail)
local macro_rules | `(tactic| walk_at "no such line") => `(tactic| fail)
local macro_rules | `(tactic| walk_at "no such line") => `(tactic| fail)
local macro_rules | `(tactic| walk_at "no such line") => `(tactic| fail)
local macro_rules | `(tactic| walk_at "no such line") => `(tactic| fail)
local macro_rules | `(tactic| walk_at "no such line") => `(tactic| fail)
local macro_rules | `(tactic| walk_at "no such line") => `(tactic| fail)
local macro_rules | `(tactic| walk_at "no such line") => `(tactic| fail)
local macro_rules | `(tactic| walk_at "no such line") => `(tactic| fail)
local macro_rules | `(tactic| walk_at "no such line") => `(tactic| fail)
local macro_rules | `(tactic| walk_at "no such line") => `(tactic| fail)
local macro_rules | `(tactic| walk_at "no such line") => `(tactic| fail)
local macro_rules | `(tactic| walk_at "no such line") => `(tactic| fail)
local macro_rules | `(tactic| walk_at "no such line") => `(tactic| fail)
local macro_rules | `(tactic| walk_at "no such line") => `(tactic| fail)
local macro_rules | `(tactic| walk_at "no such line") => `(tactic| fail)
local macro_rules | `(tactic| walk_at "no such line") => `(tactic| fail)
local macro_rules | `(tactic| walk_at "no such line") => `(tactic| fail)
local macro_rules | `(tactic| walk_at "eval BinOp") => `(tactic| (k_here; k_dflt (refine' Mine.pev_ok ?F ?e ?c ?k ?_; (case F => k_asm); (case e => exact rfl); (case c => (repeat (first | exact trivial | refine And.intro (by mul_fits) ?_))); (case k => rfl); k_whole)))
local macro_rules | `(tactic| walk_at "spliced") => `(tactic| (k_here; k_dflt (refine' Mine.args_ok ?F ?k ?e ?c ?_; (case F => k_asm); (case k => rfl); (case e => exact rfl); (case c => (repeat (first | exact trivial | refine And.intro (by mul_fits) ?_))); k_whole)))
local macro_rules | `(tactic| walk_at "isTrue Compare") => `(tactic| (k_here; k_dflt (refine' Mine.cmp_ok ?F ?e ?c ?k ?n ?_; (case F => k_asm); (case e => exact rfl); (case c => (repeat (first | exact trivial | refine And.intro (by mul_fits) ?_))); (case k => rfl); (case n => rfl); k_whole)))
local macro_rules | `(tactic| walk_at "exec Assign") => `(tactic| (k_here; k_dflt (refine' Mine.assign_ok ?F ?N ?e ?c ?k ?x ?s ?_; (case F => k_asm); (case N => k_asm); (case e => exact rfl); (case c => (repeat (first | exact trivial | refine And.intro (by mul_fits) ?_))); (case k => rfl); (case x => rfl); (case s => rfl); k_whole; intro h' m' F' N'; (try k_sweep))))
local macro_rules | `(tactic| walk_at "exec Return some") => `(tactic| (k_here; k_dflt (refine' Mine.ret_ok ?F ?e ?c ?k ?_; (case F => k_asm); (case e => exact rfl); (case c => (repeat (first | exact trivial | refine And.intro (by mul_fits) ?_))); (case k => rfl); k_whole)))
local macro_rules | `(tactic| walk_at "storeName") => `(tactic| (k_here; k_dflt (refine' Mine.storeY_L ?F ?N ?_ ?a ?b; (case F => k_asm); (case N => k_asm); (case a => rfl); (case b => rfl); k_whole; intro h' m' F' N'; (try k_sweep))))
local macro_rules | `(tactic| k_steps) => `(tactic| repeat' (first | dsimp only | (k_unfold; (try dsimp only)) | (k_end; wrow_close) | walk1 | (dsimp only; walk1) | (leave1; walk_say "STEP leave1"; try dsimp only) | fail "no step"))
local macro_rules | `(tactic| k_ne) => `(tactic| (refine PySem.W.neN ?_; (try dsimp only); first
  | with_reducible assumption
  | ((with_reducible refine Nat.ne_of_lt ?_); (repeat with_reducible refine Mine.nzLT ?_); (first | with_reducible assumption | exact Mine.nzA1 (by with_reducible assumption) | exact Mine.nzA2 (by with_reducible assumption) | exact Mine.nzZ2 (by with_reducible assumption) | exact Mine.nzA3 (by with_reducible assumption) | exact Mine.nzZ3 (by with_reducible assumption) | exact Mine.nzA4 (by with_reducible assumption) | exact Mine.nzZ4 (by with_reducible assumption) | exact Mine.nzA5 (by with_reducible assumption) | exact Mine.nzZ5 (by with_reducible assumption) | exact Mine.nzA6 (by with_reducible assumption) | exact Mine.nzZ6 (by with_reducible assumption) | exact Mine.nzA7 (by with_reducible assumption) | exact Mine.nzZ7 (by with_reducible assumption) | exact Mine.nzA8 (by with_reducible assumption) | exact Mine.nzZ8 (by with_reducible assumption) | exact Mine.nzA9 (by with_reducible assumption) | exact Mine.nzZ9 (by with_reducible assumption) | exact Mine.nzA10 (by with_reducible assumption) | exact Mine.nzZ10 (by with_reducible assumption) | exact Mine.nzA11 (by with_reducible assumption) | exact Mine.nzZ11 (by with_reducible assumption) | exact Mine.nzA12 (by with_reducible assumption) | exact Mine.nzZ12 (by with_reducible assumption) | exact Mine.nzA13 (by with_reducible assumption) | exact Mine.nzZ13 (by with_reducible assumption) | exact Mine.nzA14 (by with_reducible assumption) | exact Mine.nzZ14 (by with_reducible assumption) | exact Mine.nzA15 (by with_reducible assumption) | exact Mine.nzZ15 (by with_reducible assumption) | exact Mine.nzA16 (by with_reducible assumption) | exact Mine.nzZ16 (by with_reducible assumption)))
  | ((with_reducible refine Nat.ne_of_gt ?_); (repeat with_reducible refine Mine.nzLT ?_); (first | with_reducible assumption | exact Mine.nzA1 (by with_reducible assumption) | exact Mine.nzA2 (by with_reducible assumption) | exact Mine.nzZ2 (by with_reducible assumption) | exact Mine.nzA3 (by with_reducible assumption) | exact Mine.nzZ3 (by with_reducible assumption) | exact Mine.nzA4 (by with_reducible assumption) | exact Mine.nzZ4 (by with_reducible assumption) | exact Mine.nzA5 (by with_reducible assumption) | exact Mine.nzZ5 (by with_reducible assumption) | exact Mine.nzA6 (by with_reducible assumption) | exact Mine.nzZ6 (by with_reducible assumption) | exact Mine.nzA7 (by with_reducible assumption) | exact Mine.nzZ7 (by with_reducible assumption) | exact Mine.nzA8 (by with_reducible assumption) | exact Mine.nzZ8 (by with_reducible assumption) | exact Mine.nzA9 (by with_reducible assumption) | exact Mine.nzZ9 (by with_reducible assumption) | exact Mine.nzA10 (by with_reducible assumption) | exact Mine.nzZ10 (by with_reducible assumption) | exact Mine.nzA11 (by with_reducible assumption) | exact Mine.nzZ11 (by with_reducible assumption) | exact Mine.nzA12 (by with_reducible assumption) | exact Mine.nzZ12 (by with_reducible assumption) | exact Mine.nzA13 (by with_reducible assumption) | exact Mine.nzZ13 (by with_reducible assumption) | exact Mine.nzA14 (by with_reducible assumption) | exact Mine.nzZ14 (by with_reducible assumption) | exact Mine.nzA15 (by with_reducible assumption) | exact Mine.nzZ15 (by with_reducible assumption) | exact Mine.nzA16 (by with_reducible assumption) | exact Mine.nzZ16 (by with_reducible assumption)))
  | ((repeat with_reducible refine Mine.nzSS ?_); (first | with_reducible refine Mine.nzS0 ?_ | with_reducible refine Mine.nz0S ?_); (repeat (first | with_reducible exact Nat.le_refl _ | with_reducible refine Mine.nzLS ?_)); done)
  | (first | with_reducible assumption | exact Mine.nzA1 (by with_reducible assumption) | exact Mine.nzA2 (by with_reducible assumption) | exact Mine.nzZ2 (by with_reducible assumption) | exact Mine.nzA3 (by with_reducible assumption) | exact Mine.nzZ3 (by with_reducible assumption) | exact Mine.nzA4 (by with_reducible assumption) | exact Mine.nzZ4 (by with_reducible assumption) | exact Mine.nzA5 (by with_reducible assumption) | exact Mine.nzZ5 (by with_reducible assumption) | exact Mine.nzA6 (by with_reducible assumption) | exact Mine.nzZ6 (by with_reducible assumption) | exact Mine.nzA7 (by with_reducible assumption) | exact Mine.nzZ7 (by with_reducible assumption) | exact Mine.nzA8 (by with_reducible assumption) | exact Mine.nzZ8 (by with_reducible assumption) | exact Mine.nzA9 (by with_reducible assumption) | exact Mine.nzZ9 (by with_reducible assumption) | exact Mine.nzA10 (by with_reducible assumption) | exact Mine.nzZ10 (by with_reducible assumption) | exact Mine.nzA11 (by with_reducible assumption) | exact Mine.nzZ11 (by with_reducible assumption) | exact Mine.nzA12 (by with_reducible assumption) | exact Mine.nzZ12 (by with_reducible assumption) | exact Mine.nzA13 (by with_reducible assumption) | exact Mine.nzZ13 (by with_reducible assumption) | exact Mine.nzA14 (by with_reducible assumption) | exact Mine.nzZ14 (by with_reducible assumption) | exact Mine.nzA15 (by with_reducible assumption) | exact Mine.nzZ15 (by with_reducible assumption) | exact Mine.nzA16 (by with_reducible assumption) | exact Mine.nzZ16 (by with_reducible assumption))
  | (apply Ne.symm; (first | with_reducible assumption | exact Mine.nzA1 (by with_reducible assumption) | exact Mine.nzA2 (by with_reducible assumption) | exact Mine.nzZ2 (by with_reducible assumption) | exact Mine.nzA3 (by with_reducible assumption) | exact Mine.nzZ3 (by with_reducible assumption) | exact Mine.nzA4 (by with_reducible assumption) | exact Mine.nzZ4 (by with_reducible assumption) | exact Mine.nzA5 (by with_reducible assumption) | exact Mine.nzZ5 (by with_reducible assumption) | exact Mine.nzA6 (by with_reducible assumption) | exact Mine.nzZ6 (by with_reducible assumption) | exact Mine.nzA7 (by with_reducible assumption) | exact Mine.nzZ7 (by with_reducible assumption) | exact Mine.nzA8 (by with_reducible assumption) | exact Mine.nzZ8 (by with_reducible assumption) | exact Mine.nzA9 (by with_reducible assumption) | exact Mine.nzZ9 (by with_reducible assumption) | exact Mine.nzA10 (by with_reducible assumption) | exact Mine.nzZ10 (by with_reducible assumption) | exact Mine.nzA11 (by with_reducible assumption) | exact Mine.nzZ11 (by with_reducible assumption) | exact Mine.nzA12 (by with_reducible assumption) | exact Mine.nzZ12 (by with_reducible assumption) | exact Mine.nzA13 (by with_reducible assumption) | exact Mine.nzZ13 (by with_reducible assumption) | exact Mine.nzA14 (by with_reducible assumption) | exact Mine.nzZ14 (by with_reducible assumption) | exact Mine.nzA15 (by with_reducible assumption) | exact Mine.nzZ15 (by with_reducible assumption) | exact Mine.nzA16 (by with_reducible assumption) | exact Mine.nzZ16 (by with_reducible assumption)))
  | omega))
local macro_rules | `(tactic| k_lt $h:ident) => `(tactic| (replace $h := Mine.allLt1 $h; dsimp only [Mine.AllLt1, Mine.AllLtC] at $h:ident))
open PySem PySem.W PyProof.Rows
namespace Mine
set_option Elab.async false
abbrev divI (a b : Int) : UInt64 := Float64.ofFrac (decide (a < 0) != decide (b < 0)) a.natAbs b.natAbs
abbrev RetL3F (x y z : UInt64) : Shared → (Value → Shared → Prop) → Prop :=
  fun s Q => ∀ (d : Addr) (t1 t2 t3 : Tok) (n : Nat) (h' : Heap) (tk' : Nat), Keep s.heap h' → s.heap.get? d = none → h'.get? d = some (W.listOf #[.float x t1, .float y t2, .float z t3] n) → Q (.ref d) { s with heap := h', toks := tk' }
abbrev up64 (x : UInt64) (t : Int) : UInt64 := Float64.mul (Float64.mul x (Float64.ofInt 64)) (Float64.ofInt t)
structure HsvOk (p t sh lv : Int) : Prop where
  okT : 0 < t ∧ t < 1000 ∧ p.natAbs < 1000
  okS : 0 < sh ∧ sh < 9 ∧ 0 < lv ∧ lv < 9
  okC : (Float64.cmp (divI sh 8) 0 == some Ordering.eq) = false ∧ Float64.isFinite (Float64.mul (divI (p + 50 * t) t) 4618441417868443648) = true ∧ (hsvI (divI (p + 50 * t) t)).natAbs < 1000
  b0 : (lv * (8 * t - sh * fallI p t 0)).natAbs < 2 ^ 40
  b2 : (lv * (8 * t - sh * fallI p t 2)).natAbs < 2 ^ 40
  b4 : (lv * (8 * t - sh * fallI p t 4)).natAbs < 2 ^ 40
  n0 : nearB (up64 (hsvR (divI (p + 50 * t) t) (divI sh 8) (divI lv 8)) t) (lv * (8 * t - sh * fallI p t 0)) = true
  n2 : nearB (up64 (hsvG (divI (p + 50 * t) t) (divI sh 8) (divI lv 8)) t) (lv * (8 * t - sh * fallI p t 2)) = true
  n4 : nearB (up64 (hsvB (divI (p + 50 * t) t) (divI sh 8) (divI lv 8)) t) (lv * (8 * t - sh * fallI p t 4)) = true
local macro_rules | `(tactic| walk_at "call ref") => `(tactic| (k_here; (with_reducible show wpAny _ _ (call (Value.ref 49) _) _ _ _); k_dflt (refine' hsv_spec _ _ _ _ _ _ _ _ _ _ _ _ _ _ _ _ _ _ _ _ _ _ _ _ _ _ _ _ ?k1 ?k2 ?k3 ?k4 ?k5 ?k6 ?k7 ?k8 ?k9 ?_; (case k1 => k_asm); (case k2 => k_asm); (case k3 => k_asm); (case k4 => k_asm); (case k5 => k_asm); (case k6 => first | exact rfl | assumption); (case k7 => assumption); (case k8 => ktr_room); (case k9 => ktr_units); k_whole); intro d' ta' tb' tc' h' tk' F' N'; (try dsimp only); (try k_fold)))
local macro_rules | `(tactic| walk_at "call ref") => `(tactic| (k_here; (with_reducible show wpAny _ _ (call (Value.ref 171) _) _ _ _); k_dflt (refine' falls_ctr _ _ _ _ _ _ _ _ _ _ _ _ _ _ _ _ _ _ _ _ _ _ _ _ _ _ ?k1 ?k2 ?k3 ?k4 ?k5 ?k6 ?k7 ?k8 ?k9 ?_; (case k1 => k_asm); (case k2 => k_asm); (case k3 => k_asm); (case k4 => k_asm); (case k5 => k_asm); (case k6 => first | exact rfl | assumption); (case k7 => assumption); (case k8 => ktr_room); (case k9 => ktr_units); k_whole); intro d' ta' tb' tc' n' h' tk' F' N'; (try dsimp only); (try k_fold)))
local macro_rules | `(tactic| walk_at "call ref") => `(tactic| (k_here; (with_reducible show wpAny _ _ (call (Value.ref 164) _) _ _ _); k_dflt (refine' near_spec _ _ _ _ _ _ _ _ _ _ _ _ _ _ _ _ _ _ _ _ _ _ _ _ _ _ ?k1 ?k2 ?k3 ?k4 ?k5 ?k6 ?k7 ?k8 ?k9 ?_; (case k1 => k_asm); (case k2 => k_asm); (case k3 => k_asm); (case k4 => k_asm); (case k5 => k_asm); (case k6 => first | exact rfl | assumption); (case k7 => assumption); (case k8 => ktr_room); (case k9 => ktr_units); k_whole); intro t' h' tk' F' N'; (try dsimp only); (try k_fold)))
local macro_rules | `(tactic| walk_at "exec For Tuple Call cons nil") => `(tactic| (k_here; (rename Fr _ _ _ _ => lF'); (with_unfolding_all refine' For_turns lF' ?_; k_whole)))
local macro_rules | `(tactic| walk_at "call type:zip") => `(tactic| (k_here; (with_reducible show wpAny _ _ (call (Value.type _) [Value.ref _, Value.ref _]) (fun xv s₁ => wpAny _ _ (pyIter xv) (fun it s₂ => TurnsAt _ _ _ _ _ _ _ _ _ it s₂) _ s₁) _ _); (rename Fr _ _ _ _ => lF'); (with_unfolding_all refine ktuT_zip (xs := [_, _, _]) (ys := [_, _, _]) (by rfl) lF' (by assumption) (by k_mem) (by rfl) (by rfl) (by k_mem) (by rfl) (by rfl) ?_); clear lF'; intro i' l1; (try k_lt l1)))
set_option maxRecDepth 100000 in
set_option maxHeartbeats 8000000 in
theorem lhsv_spec (w : World) (p t sh lv : Int) (t1 t2 t3 t4 : Tok) :
    CtrK w 12 120 200 [.int p t1, .int t t2, .int sh t3, .int lv t4] (fun _ => HsvOk p t sh lv)
      (RetL3F (hsvR (divI (p + 50 * t) t) (divI sh 8) (divI lv 8)) (hsvG (divI (p + 50 * t) t) (divI sh 8) (divI lv 8)) (hsvB (divI (p + 50 * t) t) (divI sh 8) (divI lv 8))) := by
  dsimp only [CtrK, P0, LS, RetL3F]
  k_fill
  intro mean mg mb dp un gd cn cs a ccd cl outer A₀ base h₀ L m s Q E B F X T hk hpre hdp hun hret
  obtain ⟨hpA, ⟨hp4, hp5, hp6, hp7⟩, hpC, hb0, hb2, hb4, hn0, hn2, hn4⟩ := hpre
  have hp1 := hpA.1
  have hp2 := hpA.2.1
  have hp3 := hpA.2.2
  refine wpAny_call ?_
  k_dflt (refine' enterP ?k1 ?k2 ?k3 ?k5 ?kA ?kF ?kK ?k6 ?k7 ?k8 ?k9 ?kB ?_ ?c2 ?c3 ?c4 ?c5; (case kA => exact rfl); (case kF => exact rfl); (case kK => assumption); (case k1 => k_asm); (case k2 => k_asm); (case k3 => k_asm); (case k5 => k_asm); (case k6 => k_is); (case k7 => k_is); (case k8 => ktr_room); (case k9 => exact BindsTo.of_eq rfl); (case c5 => decide); (case kB => exact locs rfl); (case c2 => exact rfl); (case c3 => exact rfl); (case c4 => exact rfl); k_whole; intro L' h' F' N' B' X' T'; (try dsimp only); (try k_lift B'); (try k_fold))
  (first | (refine Mine.letF F' ?_; clear F'; intro mz39 F') | skip); (first | (refine Mine.letAE ?_; intro envz39) | skip); (first | (refine Mine.genT ?_; intro tkz39) | skip)
  k_steps
  (try dsimp only)
  (with_reducible rename Fr _ _ _ _ => kF)
  (with_reducible rename News _ _ _ _ => kN)
  have h2 := kN _ List.mem_cons_self
  exact hret _ _ _ _ _ _ _ kF.keep h2.2.2 h2.1
end Mine
end
section -- Kv
theorem Mine.wTopOff24 : True := by w_top off; trivial
local macro_rules | `(tactic| walk_at "no such line") => `(tactic| fail)
local macro_rules | `(tactic| walk_at "no such line") => `(tactic| fail)
local macro_rules | `(tactic| walk_at "no such line") => `(tactic| fail)
local macro_rules | `(tactic| walk_at "no such line") => `(tactic| fail)
local macro_rules | `(tactic| walk_at "no such line") => `(tactic| fail)
local macro_rules | `(tactic| walk_at "no such line") => `(tactic| fail)
local macro_rules | `(tactic| walk_at "no such line") => `(tactic| fail)
local macro_rules | `(tactic| walk_at "no such line") => `(tactic| fail)
local macro_rules | `(tactic| walk_at "no such line") => `(tactic| fail)
local macro_rules | `(tactic| walk_at "no such line") => `(tactic| fail)
local macro_rules | `(tactic| walk_at "no such line") => `(tactic| fail)
local macro_rules | `(tactic| walk_at "no such line") => `(tactic| fail)
local macro_rules | `(tactic| walk_at "no such line") => `(tactic| fail)
local macro_rules | `(tactic| walk_at "no such line") => `(tactic| fail)
local macro_rules | `(tactic| walk_at "no such line") => `(tactic| fail)
local macro_rules | `(tactic| walk_at "no such line") => `(tactic| fail)
local macro_rules | `(tactic| walk_at "no such line") => `(tactic| fail)
local macro_rules | `(tactic| walk_at "no such line") => `(tactic| fail)
local macro_rules | `(tactic| walk_at "no such line") => `(tactic| fail)
local macro_rules | `(tactic| walk_at "no such line") => `(tactic| fail)
local macro_rules | `(tactic| walk_at "no such line") => `(tactic| fail)
local macro_rules | `(tactic| walk_at "no such line") => `(tactic| fail)
local macro_rules | `(tactic| walk_at "no such line") => `(tactic| fail)
local macro_rules | `(tactic| walk_at "no such line") => `(tactic| fail)
local macro_rules | `(tactic| walk_at "no such line") => `(tactic| fail)
local macro_rules | `(tactic| walk_at "no such line") => `(tactic| fail)
local macro_rules | `(tactic| walk_at "no such line") => `(tactic| fail)
local macro_rules | `(tactic| walk_at "no such line") => `(tactic| fail)
local macro_rules | `(tactic| walk_at "no such line") => `(tactic| fail)
local macro_rules | `(tactic| walk_at "no such line") => `(tactic| fail)
local macro_rules | `(tactic| walk_at "no such line") => `(tactic| fail)
local macro_rules | `(tactic| walk_at "no such line") => `(tactic| fail)
local macro_rules | `(tactic| walk_at "no such line") => `(tactic| fail)
local macro_rules | `(tactic| walk_at "no such line") => `(tactic| fail)
local macro_rules | `(tactic| walk_at "no such line") => `(tactic| fail)
local macro_rules | `(tactic| walk_at "no such line") => `(tactic| fail)
local macro_rules | `(tactic| walk_at "no such line") => `(tactic| fail)
local macro_rules | `(tactic| walk_at "no such line") => `(tactic| fail)
local macro_rules | `(tactic| walk_at "no such line") => `(tactic| fail)
local macro_rules | `(tactic| walk_at "no such line") => `(tactic| fail)
local macro_rules | `(tactic| walk_at "no such line") => `(tactic| fail)
local macro_rules | `(tactic| walk_at "no such line") => `(tactic| fail)
local macro_rules | `(tactic| walk_at "no such line") => `(tactic| fail)
local macro_rules | `(tactic| walk_at "no such line") => `(tactic| fail)
local macro_rules | `(tactic| walk_at "no such line") => `(tactic| fail)
local macro_rules | `(tactic| walk_at "no such line") => `(tactic| fail)
local macro_rules | `(tactic| walk_at "no such line") => `(tactic| fail)
local macro_rules | `(tactic| walk_at "no such line") => `(tactic| fail)
local macro_rules | `(tactic| walk_at "no such line") => `(tactic| fail)
local macro_rules | `(tactic| walk_at "no such line") => `(tactic| fail)
local macro_rules | `(tactic| k_ne) => `(tactic| (refine PySem.W.neN ?_; (try dsimp only); first
  | with_reducible assumption
  | ((with_reducible refine Nat.ne_of_lt ?_); (repeat with_reducible refine Mine.nzLT ?_); (first | with_reducible assumption | exact Mine.nzA1 (by with_reducible assumption) | exact Mine.nzA2 (by with_reducible assumption) | exact Mine.nzZ2 (by with_reducible assumption) | exact Mine.nzA3 (by with_reducible assumption) | exact Mine.nzZ3 (by with_reducible assumption) | exact Mine.nzA4 (by with_reducible assumption) | exact Mine.nzZ4 (by with_reducible assumption) | exact Mine.nzA5 (by with_reducible assumption) | exact Mine.nzZ5 (by with_reducible assumption) | exact Mine.nzA6 (by with_reducible assumption) | exact Mine.nzZ6 (by with_reducible assumption) | exact Mine.nzA7 (by with_reducible assumption) | exact Mine.nzZ7 (by with_reducible assumption) | exact Mine.nzA8 (by with_reducible assumption) | exact Mine.nzZ8 (by with_reducible assumption) | exact Mine.nzA9 (by with_reducible assumption) | exact Mine.nzZ9 (by with_reducible assumption) | exact Mine.nzA10 (by with_reducible assumption) | exact Mine.nzZ10 (by with_reducible assumption) | exact Mine.nzA11 (by with_reducible assumption) | exact Mine.nzZ11 (by with_reducible assumption) | exact Mine.nzA12 (by with_reducible assumption) | exact Mine.nzZ12 (by with_reducible assumption) | exact Mine.nzA13 (by with_reducible assumption) | exact Mine.nzZ13 (by with_reducible assumption) | exact Mine.nzA14 (by with_reducible assumption) | exact Mine.nzZ14 (by with_reducible assumption) | exact Mine.nzA15 (by with_reducible assumption) | exact Mine.nzZ15 (by with_reducible assumption) | exact Mine.nzA16 (by with_reducible assumption) | exact Mine.nzZ16 (by with_reducible assumption)))
  | ((with_reducible refine Nat.ne_of_gt ?_); (repeat with_reducible refine Mine.nzLT ?_); (first | with_reducible assumption | exact Mine.nzA1 (by with_reducible assumption) | exact Mine.nzA2 (by with_reducible assumption) | exact Mine.nzZ2 (by with_reducible assumption) | exact Mine.nzA3 (by with_reducible assumption) | exact Mine.nzZ3 (by with_reducible assumption) | exact Mine.nzA4 (by with_reducible assumption) | exact Mine.nzZ4 (by with_reducible assumption) | exact Mine.nzA5 (by with_reducible assumption) | exact Mine.nzZ5 (by with_reducible assumption) | exact Mine.nzA6 (by with_reducible assumption) | exact Mine.nzZ6 (by with_reducible assumption) | exact Mine.nzA7 (by with_reducible assumption) | exact Mine.nzZ7 (by with_reducible assumption) | exact Mine.nzA8 (by with_reducible assumption) | exact Mine.nzZ8 (by with_reducible assumption) | exact Mine.nzA9 (by with_reducible assumption) | exact Mine.nzZ9 (by with_reducible assumption) | exact Mine.nzA10 (by with_reducible assumption) | exact Mine.nzZ10 (by with_reducible assumption) | exact Mine.nzA11 (by with_reducible assumption) | exact Mine.nzZ11 (by with_reducible assumption) | exact Mine.nzA12 (by with_reducible assumption) | exact Mine.nzZ12 (by with_reducible assumption) | exact Mine.nzA13 (by with_reducible assumption) | exact Mine.nzZ13 (by with_reducible assumption) | exact Mine.nzA14 (by with_reducible assumption) | exact Mine.nzZ14 (by with_reducible assumption) | exact Mine.nzA15 (by with_reducible assumption) | exact Mine.nzZ15 (by with_reducible assumption) | exact Mine.nzA16 (by with_reducible assumption) | exact Mine.nzZ16 (by with_reducible assumption)))
  | ((repeat with_reducible refine Mine.nzSS ?_); (first | with_reducible refine Mine.nzS0 ?_ | with_reducible refine Mine.nz0S ?_); (repeat (first | with_reducible exact Nat.le_refl _ | with_reducible refine Mine.nzLS ?_)); done)
  | (first | with_reducible assumption | exact Mine.nzA1 (by with_reducible assumption) | exact Mine.nzA2 (by with_reducible assumption) | exact Mine.nzZ2 (by with_reducible assumption) | exact Mine.nzA3 (by with_reducible assumption) | exact Mine.nzZ3 (by with_reducible assumption) | exact Mine.nzA4 (by with_reducible assumption) | exact Mine.nzZ4 (by with_reducible assumption) | exact Mine.nzA5 (by with_reducible assumption) | exact Mine.nzZ5 (by with_reducible assumption) | exact Mine.nzA6 (by with_reducible assumption) | exact Mine.nzZ6 (by with_reducible assumption) | exact Mine.nzA7 (by with_reducible assumption) | exact Mine.nzZ7 (by with_reducible assumption) | exact Mine.nzA8 (by with_reducible assumption) | exact Mine.nzZ8 (by with_reducible assumption) | exact Mine.nzA9 (by with_reducible assumption) | exact Mine.nzZ9 (by with_reducible assumption) | exact Mine.nzA10 (by with_reducible assumption) | exact Mine.nzZ10 (by with_reducible assumption) | exact Mine.nzA11 (by with_reducible assumption) | exact Mine.nzZ11 (by with_reducible assumption) | exact Mine.nzA12 (by with_reducible assumption) | exact Mine.nzZ12 (by with_reducible assumption) | exact Mine.nzA13 (by with_reducible assumption) | exact Mine.nzZ13 (by with_reducible assumption) | exact Mine.nzA14 (by with_reducible assumption) | exact Mine.nzZ14 (by with_reducible assumption) | exact Mine.nzA15 (by with_reducible assumption) | exact Mine.nzZ15 (by with_reducible assumption) | exact Mine.nzA16 (by with_reducible assumption) | exact Mine.nzZ16 (by with_reducible assumption))
  | (apply Ne.symm; (first | with_reducible assumption | exact Mine.nzA1 (by with_reducible assumption) | exact Mine.nzA2 (by with_reducible assumption) | exact Mine.nzZ2 (by with_reducible assumption) | exact Mine.nzA3 (by with_reducible assumption) | exact Mine.nzZ3 (by with_reducible assumption) | exact Mine.nzA4 (by with_reducible assumption) | exact Mine.nzZ4 (by with_reducible assumption) | exact Mine.nzA5 (by with_reducible assumption) | exact Mine.nzZ5 (by with_reducible assumption) | exact Mine.nzA6 (by with_reducible assumption) | exact Mine.nzZ6 (by with_reducible assumption) | exact Mine.nzA7 (by with_reducible assumption) | exact Mine.nzZ7 (by with_reducible assumption) | exact Mine.nzA8 (by with_reducible assumption) | exact Mine.nzZ8 (by with_reducible assumption) | exact Mine.nzA9 (by with_reducible assumption) | exact Mine.nzZ9 (by with_reducible assumption) | exact Mine.nzA10 (by with_reducible assumption) | exact Mine.nzZ10 (by with_reducible assumption) | exact Mine.nzA11 (by with_reducible assumption) | exact Mine.nzZ11 (by with_reducible assumption) | exact Mine.nzA12 (by with_reducible assumption) | exact Mine.nzZ12 (by with_reducible assumption) | exact Mine.nzA13 (by with_reducible assumption) | exact Mine.nzZ13 (by with_reducible assumption) | exact Mine.nzA14 (by with_reducible assumption) | exact Mine.nzZ14 (by with_reducible assumption) | exact Mine.nzA15 (by with_reducible assumption) | exact Mine.nzZ15 (by with_reducible assumption) | exact Mine.nzA16 (by with_reducible assumption) | exact Mine.nzZ16 (by with_reducible assumption)))
  | omega))
local macro_rules | `(tactic| k_lt $h:ident) => `(tactic| (replace $h := Mine.allLt1 $h; dsimp only [Mine.AllLt1, Mine.AllLtC] at $h:ident))
open PySem PySem.W PyProof.Rows
namespace Mine
set_option Elab.async false
set_option maxRecDepth 100000 in
set_option maxHeartbeats 8000000 in
theorem v_spec (w : World) (news : List (Addr × Obj)) (m1 m2 hue : UInt64) (t1 t2 t3 : Tok) :
    Ctr w 4 40 42 news [.float m1 t1, .float m2 t2, .float hue t3] True (RetV news fun t => .float (vF m1 m2 hue) t) := by
  dsimp only [Ctr, P0, LS, RetV]
  k_fill
  intro mean mg mb dp un gd cn cs a ccd cl outer A₀ base h₀ L m s Q E B F X N T hk hpre hdp hun hret
  refine wpAny_call ?_
  k_dflt cell_enter
  k_steps
  all_goals (have hf : ∀ t x h' tk', x = vF m1 m2 hue → Fr h₀ L h' m → News h₀ L h' news → Q (.float x t) { s with heap := h', toks := tk' } := fun t x h' tk' e F N => e ▸ hret t h' tk' F N)
  all_goals (refine hf _ _ _ _ ?_ (by assumption) (by assumption); unfold vF; simp [*])
end Mine
end
section -- Khls
theorem Mine.wTopOff25 : True := by w_top off; trivial
local macro_rules | `(tactic| walk_at "eval BinOp") => `(tactic| (k_here; k_dflt (refine' Mine.pev_ok ?F ?e ?c ?k ?_; (case F => k_asm); (case e => exact rfl); (case c => (repeat (first | exact trivial | refine And.intro (by mul_fits) ?_))); (case k => rfl); k_whole)))
local macro_rules | `(tactic| walk_at "spliced") => `(tactic| (k_here; k_dflt (refine' Mine.args_ok ?F ?k ?e ?c ?_; (case F => k_asm); (case k => rfl); (case e => exact rfl); (case c => (repeat (first | exact trivial | refine And.intro (by mul_fits) ?_))); k_whole)))
local macro_rules | `(tactic| walk_at "isTrue Compare") => `(tactic| (k_here; k_dflt (refine' Mine.cmp_ok ?F ?e ?c ?k ?n ?_; (case F => k_asm); (case e => exact rfl); (case c => (repeat (first | exact trivial | refine And.intro (by mul_fits) ?_))); (case k => rfl); (case n => rfl); k_whole)))
local macro_rules | `(tactic| walk_at "exec Assign") => `(tactic| (k_here; k_dflt (refine' Mine.assign_ok0 ?F ?N ?e ?c ?k ?x ?s ?_; (case F => k_asm); (case N => k_asm); (case e => exact rfl); (case c => (repeat (first | exact trivial | refine And.intro (by mul_fits) ?_))); (case k => rfl); (case x => rfl); (case s => rfl); k_whole; intro h' F' N'; (try k_sweep))))
local macro_rules | `(tactic| walk_at "exec Return some") => `(tactic| (k_here; k_dflt (refine' Mine.ret_ok ?F ?e ?c ?k ?_; (case F => k_asm); (case e => exact rfl); (case c => (repeat (first | exact trivial | refine And.intro (by mul_fits) ?_))); (case k => rfl); k_whole)))
local macro_rules | `(tactic| k_steps) => `(tactic| repeat' (first | dsimp only | (k_unfold; (try dsimp only)) | (k_end; wrow_close) | walk1 | (dsimp only; walk1) | (leave1; walk_say "STEP leave1"; try dsimp only) | fail "no step"))
local macro_rules | `(tactic| k_ne) => `(tactic| (refine PySem.W.neN ?_; (try dsimp only); first
  | with_reducible assumption
  | ((with_reducible refine Nat.ne_of_lt ?_); (repeat with_reducible refine Mine.nzLT ?_); (first | with_reducible assumption | exact Mine.nzA1 (by with_reducible assumption) | exact Mine.nzA2 (by with_reducible assumption) | exact Mine.nzZ2 (by with_reducible assumption) | exact Mine.nzA3 (by with_reducible assumption) | exact Mine.nzZ3 (by with_reducible assumption) | exact Mine.nzA4 (by with_reducible assumption) | exact Mine.nzZ4 (by with_reducible assumption) | exact Mine.nzA5 (by with_reducible assumption) | exact Mine.nzZ5 (by with_reducible assumption) | exact Mine.nzA6 (by with_reducible assumption) | exact Mine.nzZ6 (by with_reducible assumption) | exact Mine.nzA7 (by with_reducible assumption) | exact Mine.nzZ7 (by with_reducible assumption) | exact Mine.nzA8 (by with_reducible assumption) | exact Mine.nzZ8 (by with_reducible assumption) | exact Mine.nzA9 (by with_reducible assumption) | exact Mine.nzZ9 (by with_reducible assumption) | exact Mine.nzA10 (by with_reducible assumption) | exact Mine.nzZ10 (by with_reducible assumption) | exact Mine.nzA11 (by with_reducible assumption) | exact Mine.nzZ11 (by with_reducible assumption) | exact Mine.nzA12 (by with_reducible assumption) | exact Mine.nzZ12 (by with_reducible assumption) | exact Mine.nzA13 (by with_reducible assumption) | exact Mine.nzZ13 (by with_reducible assumption) | exact Mine.nzA14 (by with_reducible assumption) | exact Mine.nzZ14 (by with_reducible assumption) | exact Mine.nzA15 (by with_reducible assumption) | exact Mine.nzZ15 (by with_reducible assumption) | exact Mine.nzA16 (by with_reducible assumption) | exact Mine.nzZ16 (by with_reducible assumption)))
  | ((with_reducible refine Nat.ne_of_gt ?_); (repeat with_reducible refine Mine.nzLT ?_); (first | with_reducible assumption | exact Mine.nzA1 (by with_reducible assumption) | exact Mine.nzA2 (by with_reducible assumption) | exact Mine.nzZ2 (by with_reducible assumption) | exact Mine.nzA3 (by with_reducible assumption) | exact Mine.nzZ3 (by with_reducible assumption) | exact Mine.nzA4 (by with_reducible assumption) | exact Mine.nzZ4 (by with_reducible assumption) | exact Mine.nzA5 (by with_reducible assumption) | exact Mine.nzZ5 (by with_reducible assumption) | exact Mine.nzA6 (by with_reducible assumption) | exact Mine.nzZ6 (by with_reducible assumption) | exact Mine.nzA7 (by with_reducible assumption) | exact Mine.nzZ7 (by with_reducible assumption) | exact Mine.nzA8 (by with_reducible assumption) | exact Mine.nzZ8 (by with_reducible assumption) | exact Mine.nzA9 (by with_reducible assumption) | exact Mine.nzZ9 (by with_reducible assumption) | exact Mine.nzA10 (by with_reducible assumption) | exact Mine.nzZ10 (by with_reducible assumption) | exact Mine.nzA11 (by with_reducible assumption) | exact Mine.nzZ11 (by with_reducible assumption) | exact Mine.nzA12 (by with_reducible assumption) | exact Mine.nzZ12 (by with_reducible assumption) | exact Mine.nzA13 (by with_reducible assumption) | exact Mine.nzZ13 (by with_reducible assumption) | exact Mine.nzA14 (by with_reducible assumption) | exact Mine.nzZ14 (by with_reducible assumption) | exact Mine.nzA15 (by with_reducible assumption) | exact Mine.nzZ15 (by with_reducible assumption) | exact Mine.nzA16 (by with_reducible assumption) | exact Mine.nzZ16 (by with_reducible assumption)))
  | ((repeat with_reducible refine Mine.nzSS ?_); (first | with_reducible refine Mine.nzS0 ?_ | with_reducible refine Mine.nz0S ?_); (repeat (first | with_reducible exact Nat.le_refl _ | with_reducible refine Mine.nzLS ?_)); done)
  | (first | with_reducible assumption | exact Mine.nzA1 (by with_reducible assumption) | exact Mine.nzA2 (by with_reducible assumption) | exact Mine.nzZ2 (by with_reducible assumption) | exact Mine.nzA3 (by with_reducible assumption) | exact Mine.nzZ3 (by with_reducible assumption) | exact Mine.nzA4 (by with_reducible assumption) | exact Mine.nzZ4 (by with_reducible assumption) | exact Mine.nzA5 (by with_reducible assumption) | exact Mine.nzZ5 (by with_reducible assumption) | exact Mine.nzA6 (by with_reducible assumption) | exact Mine.nzZ6 (by with_reducible assumption) | exact Mine.nzA7 (by with_reducible assumption) | exact Mine.nzZ7 (by with_reducible assumption) | exact Mine.nzA8 (by with_reducible assumption) | exact Mine.nzZ8 (by with_reducible assumption) | exact Mine.nzA9 (by with_reducible assumption) | exact Mine.nzZ9 (by with_reducible assumption) | exact Mine.nzA10 (by with_reducible assumption) | exact Mine.nzZ10 (by with_reducible assumption) | exact Mine.nzA11 (by with_reducible assumption) | exact Mine.nzZ11 (by with_reducible assumption) | exact Mine.nzA12 (by with_reducible assumption) | exact Mine.nzZ12 (by with_reducible assumption) | exact Mine.nzA13 (by with_reducible assumption) | exact Mine.nzZ13 (by with_reducible assumption) | exact Mine.nzA14 (by with_reducible assumption) | exact Mine.nzZ14 (by with_reducible assumption) | exact Mine.nzA15 (by with_reducible assumption) | exact Mine.nzZ15 (by with_reducible assumption) | exact Mine.nzA16 (by with_reducible assumption) | exact Mine.nzZ16 (by with_reducible assumption))
  | (apply Ne.symm; (first | with_reducible assumption | exact Mine.nzA1 (by with_reducible assumption) | exact Mine.nzA2 (by with_reducible assumption) | exact Mine.nzZ2 (by with_reducible assumption) | exact Mine.nzA3 (by with_reducible assumption) | exact Mine.nzZ3 (by with_reducible assumption) | exact Mine.nzA4 (by with_reducible assumption) | exact Mine.nzZ4 (by with_reducible assumption) | exact Mine.nzA5 (by with_reducible assumption) | exact Mine.nzZ5 (by with_reducible assumption) | exact Mine.nzA6 (by with_reducible assumption) | exact Mine.nzZ6 (by with_reducible assumption) | exact Mine.nzA7 (by with_reducible assumption) | exact Mine.nzZ7 (by with_reducible assumption) | exact Mine.nzA8 (by with_reducible assumption) | exact Mine.nzZ8 (by with_reducible assumption) | exact Mine.nzA9 (by with_reducible assumption) | exact Mine.nzZ9 (by with_reducible assumption) | exact Mine.nzA10 (by with_reducible assumption) | exact Mine.nzZ10 (by with_reducible assumption) | exact Mine.nzA11 (by with_reducible assumption) | exact Mine.nzZ11 (by with_reducible assumption) | exact Mine.nzA12 (by with_reducible assumption) | exact Mine.nzZ12 (by with_reducible assumption) | exact Mine.nzA13 (by with_reducible assumption) | exact Mine.nzZ13 (by with_reducible assumption) | exact Mine.nzA14 (by with_reducible assumption) | exact Mine.nzZ14 (by with_reducible assumption) | exact Mine.nzA15 (by with_reducible assumption) | exact Mine.nzZ15 (by with_reducible assumption) | exact Mine.nzA16 (by with_reducible assumption) | exact Mine.nzZ16 (by with_reducible assumption)))
  | omega))
local macro_rules | `(tactic| k_lt $h:ident) => `(tactic| (replace $h := Mine.allLt1 $h; dsimp only [Mine.AllLt1, Mine.AllLtC] at $h:ident))
open PySem PySem.W PyProof.Rows
namespace Mine
set_option Elab.async false
local macro_rules | `(tactic| walk_at "call ref") => `(tactic| (k_here; (with_reducible show wpAny _ _ (call (Value.ref 42) _) _ _ _); k_dflt (refine' v_spec _ _ _ _ _ _ _ _ _ _ _ _ _ _ _ _ _ _ _ _ _ _ _ _ _ _ _ _ ?k1 ?k2 ?k3 ?k4 ?k5 ?k6 ?k7 ?k8 ?k9 ?_; (case k1 => k_asm); (case k2 => k_asm); (case k3 => k_asm); (case k4 => k_asm); (case k5 => k_asm); (case k6 => first | exact rfl | assumption); (case k7 => trivial); (case k8 => ktr_room); (case k9 => ktr_units); k_whole); intro t' h' tk' F' N'; (try dsimp only); (try k_fold)))
set_option maxRecDepth 100000 in
set_option maxHeartbeats 8000000 in
theorem hls_spec (w : World) (news : List (Addr × Obj)) (hh l ss : UInt64) (t1 t2 t3 : Tok) :
    Ctr w 8 80 35 news [.float hh t1, .float l t2, .float ss t3] ((Float64.cmp ss 0 == some Ordering.eq) = false)
      (RetT3 news (vF (hlsM1 l ss) (hlsM2 l ss) (Float64.add hh 4599676419421066581)) (vF (hlsM1 l ss) (hlsM2 l ss) hh) (vF (hlsM1 l ss) (hlsM2 l ss) (Float64.sub hh 4599676419421066581))) := by
  dsimp only [Ctr, P0, LS, RetT3]
  k_fill
  intro mean mg mb dp un gd cn cs a ccd cl outer A₀ base h₀ L m s Q E B F X N T hk hpre hdp hun hret
  refine wpAny_call ?_
  k_dflt cell_enter
  k_steps
  · have e : hlsM2 l ss = _ := if_pos (by assumption)
    simp only [hlsM1, e] at hret
    exact hret _ _ _ _ _ _ (by assumption) (by assumption)
  · have e : hlsM2 l ss = _ := if_neg (by rw [show leB l 4602678819172646912 = false by assumption]; exact Bool.false_ne_true)
    simp only [hlsM1, e] at hret
    exact hret _ _ _ _ _ _ (by assumption) (by assumption)
end Mine
end
section -- Klhls
theorem Mine.wTopOff26 : True := by w_top off; trivial
local macro_rules | `(tactic| walk_at "no such line") => `(tactic| fail)
local macro_rules | `(tactic| walk_at "no such line") => `(tactic| fail)
local macro_rules | `(tactic| walk_at "no such line") => `(tactic| fail)
local macro_rules | `(tactic| walk_at "no such line") => `(tactic| fail)
local macro_rules | `(tactic| walk_at "no such line") => `(tactic| fail)
local macro_rules | `(tactic| walk_at "no such line") => `(tactic| fail)
local macro_rules | `(tactic| walk_at "no such line") => `(tactic| fail)
local macro_rules | `(tactic| walk_at "no such line") => `(tactic| fail)
local macro_rules | `(tactic| walk_at "no such line") => `(tactic| fail)
local macro_rules | `(tactic| walk_at "no such line") => `(tactic| fail)
local macro_rules | `(tactic| walk_at "no such line") => `(tactic| fail)
local macro_rules | `(tactic| walk_at "no such line") => `(tactic| fail)
local macro_rules | `(tactic| walk_at "no such line") => `(tactic| fail)
local macro_rules | `(tactic| walk_at "no such line") => `(tactic| fail)
local macro_rules | `(tactic| walk_at "no such line") => `(tactic| fail)
local macro_rules | `(tactic| walk_at "no such line") => `(tactic| fail)
local macro_rules | `(tactic| walk_at "no such line") => `(tactic| fail)
local macro_rules | `(tactic| walk_at "no such line") => `(tactic| fail)
local macro_rules | `(tactic| walk_at "no such line") => `(tactic| fail)
local macro_rules | `(tactic| walk_at "no such line") => `(tactic| fail)
local macro_rules | `(tactic| walk_at "no such line") => `(tactic| fail)
local macro_rules | `(tactic| walk_at "no such line") => `(tactic| fail)
local macro_rules | `(tactic| walk_at "no such line") => `(tactic| fail)
local macro_rules | `(tactic| walk_at "no such line") => `(tactic| fail)
local macro_rules | `(tactic| walk_at "no such line") => `(tactic| fail)
local macro_rules | `(tactic| walk_at "eval BinOp") => `(tactic| (k_here; k_dflt (refine' Mine.pev_ok ?F ?e ?c ?k ?_; (case F => k_asm); (case e => exact rfl); (case c => (repeat (first | exact trivial | refine And.intro (by mul_fits) ?_))); (case k => rfl); k_whole)))
local macro_rules | `(tactic| walk_at "spliced") => `(tactic| (k_here; k_dflt (refine' Mine.args_ok ?F ?k ?e ?c ?_; (case F => k_asm); (case k => rfl); (case e => exact rfl); (case c => (repeat (first | exact trivial | refine And.intro (by mul_fits) ?_))); k_whole)))
local macro_rules | `(tactic| walk_at "isTrue Compare") => `(tactic| (k_here; k_dflt (refine' Mine.cmp_ok ?F ?e ?c ?k ?n ?_; (case F => k_asm); (case e => exact rfl); (case c => (repeat (first | exact trivial | refine And.intro (by mul_fits) ?_))); (case k => rfl); (case n => rfl); k_whole)))
local macro_rules | `(tactic| walk_at "exec Assign") => `(tactic| (k_here; k_dflt (refine' Mine.assign_ok ?F ?N ?e ?c ?k ?x ?s ?_; (case F => k_asm); (case N => k_asm); (case e => exact rfl); (case c => (repeat (first | exact trivial | refine And.intro (by mul_fits) ?_))); (case k => rfl); (case x => rfl); (case s => rfl); k_whole; intro h' m' F' N'; (try k_sweep))))
local macro_rules | `(tactic| walk_at "exec Return some") => `(tactic| (k_here; k_dflt (refine' Mine.ret_ok ?F ?e ?c ?k ?_; (case F => k_asm); (case e => exact rfl); (case c => (repeat (first | exact trivial | refine And.intro (by mul_fits) ?_))); (case k => rfl); k_whole)))
local macro_rules | `(tactic| walk_at "storeName") => `(tactic| (k_here; k_dflt (refine' Mine.storeY_L ?F ?N ?_ ?a ?b; (case F => k_asm); (case N => k_asm); (case a => rfl); (case b => rfl); k_whole; intro h' m' F' N'; (try k_sweep))))
local macro_rules | `(tactic| k_steps) => `(tactic| repeat' (first | dsimp only | (k_unfold; (try dsimp only)) | (k_end; wrow_close) | walk1 | (dsimp only; walk1) | (leave1; walk_say "STEP leave1"; try dsimp only) | fail "no step"))
local macro_rules | `(tactic| k_ne) => `(tactic| (refine PySem.W.neN ?_; (try dsimp only); first
  | with_reducible assumption
  | ((with_reducible refine Nat.ne_of_lt ?_); (repeat with_reducible refine Mine.nzLT ?_); (first | with_reducible assumption | exact Mine.nzA1 (by with_reducible assumption) | exact Mine.nzA2 (by with_reducible assumption) | exact Mine.nzZ2 (by with_reducible assumption) | exact Mine.nzA3 (by with_reducible assumption) | exact Mine.nzZ3 (by with_reducible assumption) | exact Mine.nzA4 (by with_reducible assumption) | exact Mine.nzZ4 (by with_reducible assumption) | exact Mine.nzA5 (by with_reducible assumption) | exact Mine.nzZ5 (by with_reducible assumption) | exact Mine.nzA6 (by with_reducible assumption) | exact Mine.nzZ6 (by with_reducible assumption) | exact Mine.nzA7 (by with_reducible assumption) | exact Mine.nzZ7 (by with_reducible assumption) | exact Mine.nzA8 (by with_reducible assumption) | exact Mine.nzZ8 (by with_reducible assumption) | exact Mine.nzA9 (by with_reducible assumption) | exact Mine.nzZ9 (by with_reducible assumption) | exact Mine.nzA10 (by with_reducible assumption) | exact Mine.nzZ10 (by with_reducible assumption) | exact Mine.nzA11 (by with_reducible assumption) | exact Mine.nzZ11 (by with_reducible assumption) | exact Mine.nzA12 (by with_reducible assumption) | exact Mine.nzZ12 (by with_reducible assumption) | exact Mine.nzA13 (by with_reducible assumption) | exact Mine.nzZ13 (by with_reducible assumption) | exact Mine.nzA14 (by with_reducible assumption) | exact Mine.nzZ14 (by with_reducible assumption) | exact Mine.nzA15 (by with_reducible assumption) | exact Mine.nzZ15 (by with_reducible assumption) | exact Mine.nzA16 (by with_reducible assumption) | exact Mine.nzZ16 (by with_reducible assumption)))
  | ((with_reducible refine Nat.ne_of_gt ?_); (repeat with_reducible refine Mine.nzLT ?_); (first | with_reducible assumption | exact Mine.nzA1 (by with_reducible assumption) | exact Mine.nzA2 (by with_reducible assumption) | exact Mine.nzZ2 (by with_reducible assumption) | exact Mine.nzA3 (by with_reducible assumption) | exact Mine.nzZ3 (by with_reducible assumption) | exact Mine.nzA4 (by with_reducible assumption) | exact Mine.nzZ4 (by with_reducible assumption) | exact Mine.nzA5 (by with_reducible assumption) | exact Mine.nzZ5 (by with_reducible assumption) | exact Mine.nzA6 (by with_reducible assumption) | exact Mine.nzZ6 (by with_reducible assumption) | exact Mine.nzA7 (by with_reducible assumption) | exact Mine.nzZ7 (by with_reducible assumption) | exact Mine.nzA8 (by with_reducible assumption) | exact Mine.nzZ8 (by with_reducible assumption) | exact Mine.nzA9 (by with_reducible assumption) | exact Mine.nzZ9 (by with_reducible assumption) | exact Mine.nzA10 (by with_reducible assumption) | exact Mine.nzZ10 (by with_reducible assumption) | exact Mine.nzA11 (by with_reducible assumption) | exact Mine.nzZ11 (by with_reducible assumption) | exact Mine.nzA12 (by with_reducible assumption) | exact Mine.nzZ12 (by with_reducible assumption) | exact Mine.nzA13 (by with_reducible assumption) | exact Mine.nzZ13 (by with_reducible assumption) | exact Mine.nzA14 (by with_reducible assumption) | exact Mine.nzZ14 (by with_reducible assumption) | exact Mine.nzA15 (by with_reducible assumption) | exact Mine.nzZ15 (by with_reducible assumption) | exact Mine.nzA16 (by with_reducible assumption) | exact Mine.nzZ16 (by with_reducible assumption)))
  | ((repeat with_reducible refine Mine.nzSS ?_); (first | with_reducible refine Mine.nzS0 ?_ | with_reducible refine Mine.nz0S ?_); (repeat (first | with_reducible exact Nat.le_refl _ | with_reducible refine Mine.nzLS ?_)); done)
  | (first | with_reducible assumption | exact Mine.nzA1 (by with_reducible assumption) | exact Mine.nzA2 (by with_reducible assumption) | exact Mine.nzZ2 (by with_reducible assumption) | exact Mine.nzA3 (by with_reducible assumption) | exact Mine.nzZ3 (by with_reducible assumption) | exact Mine.nzA4 (by with_reducible assumption) | exact Mine.nzZ4 (by with_reducible assumption) | exact Mine.nzA5 (by with_reducible assumption) | exact Mine.nzZ5 (by with_reducible assumption) | exact Mine.nzA6 (by with_reducible assumption) | exact Mine.nzZ6 (by with_reducible assumption) | exact Mine.nzA7 (by with_reducible assumption) | exact Mine.nzZ7 (by with_reducible assumption) | exact Mine.nzA8 (by with_reducible assumption) | exact Mine.nzZ8 (by with_reducible assumption) | exact Mine.nzA9 (by with_reducible assumption) | exact Mine.nzZ9 (by with_reducible assumption) | exact Mine.nzA10 (by with_reducible assumption) | exact Mine.nzZ10 (by with_reducible assumption) | exact Mine.nzA11 (by with_reducible assumption) | exact Mine.nzZ11 (by with_reducible assumption) | exact Mine.nzA12 (by with_reducible assumption) | exact Mine.nzZ12 (by with_reducible assumption) | exact Mine.nzA13 (by with_reducible assumption) | exact Mine.nzZ13 (by with_reducible assumption) | exact Mine.nzA14 (by with_reducible assumption) | exact Mine.nzZ14 (by with_reducible assumption) | exact Mine.nzA15 (by with_reducible assumption) | exact Mine.nzZ15 (by with_reducible assumption) | exact Mine.nzA16 (by with_reducible assumption) | exact Mine.nzZ16 (by with_reducible assumption))
  | (apply Ne.symm; (first | with_reducible assumption | exact Mine.nzA1 (by with_reducible assumption) | exact Mine.nzA2 (by with_reducible assumption) | exact Mine.nzZ2 (by with_reducible assumption) | exact Mine.nzA3 (by with_reducible assumption) | exact Mine.nzZ3 (by with_reducible assumption) | exact Mine.nzA4 (by with_reducible assumption) | exact Mine.nzZ4 (by with_reducible assumption) | exact Mine.nzA5 (by with_reducible assumption) | exact Mine.nzZ5 (by with_reducible assumption) | exact Mine.nzA6 (by with_reducible assumption) | exact Mine.nzZ6 (by with_reducible assumption) | exact Mine.nzA7 (by with_reducible assumption) | exact Mine.nzZ7 (by with_reducible assumption) | exact Mine.nzA8 (by with_reducible assumption) | exact Mine.nzZ8 (by with_reducible assumption) | exact Mine.nzA9 (by with_reducible assumption) | exact Mine.nzZ9 (by with_reducible assumption) | exact Mine.nzA10 (by with_reducible assumption) | exact Mine.nzZ10 (by with_reducible assumption) | exact Mine.nzA11 (by with_reducible assumption) | exact Mine.nzZ11 (by with_reducible assumption) | exact Mine.nzA12 (by with_reducible assumption) | exact Mine.nzZ12 (by with_reducible assumption) | exact Mine.nzA13 (by with_reducible assumption) | exact Mine.nzZ13 (by with_reducible assumption) | exact Mine.nzA14 (by with_reducible assumption) | exact Mine.nzZ14 (by with_reducible assumption) | exact Mine.nzA15 (by with_reducible assumption) | exact Mine.nzZ15 (by with_reducible assumption) | exact Mine.nzA16 (by with_reducible assumption) | exact Mine.nzZ16 (by with_reducible assumption)))
  | omega))
local macro_rules | `(tactic| k_lt $h:ident) => `(tactic| (replace $h := Mine.allLt1 $h; dsimp only [Mine.AllLt1, Mine.AllLtC] at $h:ident))
open PySem PySem.W PyProof.Rows
namespace Mine
set_option Elab.async false
abbrev hlsX (p t sh lt : Int) : UInt64 := vF (hlsM1 (divI lt 8) (divI sh 8)) (hlsM2 (divI lt 8) (divI sh 8)) (Float64.add (divI p t) 4599676419421066581)
abbrev hlsY (p t sh lt : Int) : UInt64 := vF (hlsM1 (divI lt 8) (divI sh 8)) (hlsM2 (divI lt 8) (divI sh 8)) (divI p t)
abbrev hlsZ (p t sh lt : Int) : UInt64 := vF (hlsM1 (divI lt 8) (divI sh 8)) (hlsM2 (divI lt 8) (divI sh 8)) (Float64.sub (divI p t) 4599676419421066581)
abbrev hlsDue (p t sh lt c : Int) : Int := 8 * lt * t + sh * min lt (8 - lt) * (t - 2 * fallI p t c)
structure HlsOk (p t sh lt : Int) : Prop where
  okT : 0 < t ∧ t < 1000 ∧ p.natAbs < 1000
  okS : 0 < sh ∧ sh < 9 ∧ 0 < lt ∧ lt < 8
  okC : (Float64.cmp (divI sh 8) 0 == some Ordering.eq) = false
  b0 : (hlsDue p t sh lt 0).natAbs < 2 ^ 40
  b2 : (hlsDue p t sh lt 2).natAbs < 2 ^ 40
  b4 : (hlsDue p t sh lt 4).natAbs < 2 ^ 40
  n0 : nearB (up64 (hlsX p t sh lt) t) (hlsDue p t sh lt 0) = true
  n2 : nearB (up64 (hlsY p t sh lt) t) (hlsDue p t sh lt 2) = true
  n4 : nearB (up64 (hlsZ p t sh lt) t) (hlsDue p t sh lt 4) = true
local macro_rules | `(tactic| walk_at "call ref") => `(tactic| (k_here; (with_reducible show wpAny _ _ (call (Value.ref 35) _) _ _ _); k_dflt (refine' hls_spec _ _ _ _ _ _ _ _ _ _ _ _ _ _ _ _ _ _ _ _ _ _ _ _ _ _ _ _ ?k1 ?k2 ?k3 ?k4 ?k5 ?k6 ?k7 ?k8 ?k9 ?_; (case k1 => k_asm); (case k2 => k_asm); (case k3 => k_asm); (case k4 => k_asm); (case k5 => k_asm); (case k6 => first | exact rfl | assumption); (case k7 => assumption); (case k8 => ktr_room); (case k9 => ktr_units); k_whole); intro d' ta' tb' tc' h' tk' F' N'; (try dsimp only); (try k_fold)))
local macro_rules | `(tactic| walk_at "call ref") => `(tactic| (k_here; (with_reducible show wpAny _ _ (call (Value.ref 171) _) _ _ _); k_dflt (refine' falls_ctr _ _ _ _ _ _ _ _ _ _ _ _ _ _ _ _ _ _ _ _ _ _ _ _ _ _ ?k1 ?k2 ?k3 ?k4 ?k5 ?k6 ?k7 ?k8 ?k9 ?_; (case k1 => k_asm); (case k2 => k_asm); (case k3 => k_asm); (case k4 => k_asm); (case k5 => k_asm); (case k6 => first | exact rfl | assumption); (case k7 => assumption); (case k8 => ktr_room); (case k9 => ktr_units); k_whole); intro d' ta' tb' tc' n' h' tk' F' N'; (try dsimp only); (try k_fold)))
local macro_rules | `(tactic| walk_at "call ref") => `(tactic| (k_here; (with_reducible show wpAny _ _ (call (Value.ref 164) _) _ _ _); k_dflt (refine' near_spec _ _ _ _ _ _ _ _ _ _ _ _ _ _ _ _ _ _ _ _ _ _ _ _ _ _ ?k1 ?k2 ?k3 ?k4 ?k5 ?k6 ?k7 ?k8 ?k9 ?_; (case k1 => k_asm); (case k2 => k_asm); (case k3 => k_asm); (case k4 => k_asm); (case k5 => k_asm); (case k6 => first | exact rfl | assumption); (case k7 => assumption); (case k8 => ktr_room); (case k9 => ktr_units); k_whole); intro t' h' tk' F' N'; (try dsimp only); (try k_fold)))
local macro_rules | `(tactic| walk_at "exec For Tuple Call cons nil") => `(tactic| (k_here; (rename Fr _ _ _ _ => lF'); (with_unfolding_all refine' For_turns lF' ?_; k_whole)))
local macro_rules | `(tactic| walk_at "call type:zip") => `(tactic| (k_here; (with_reducible show wpAny _ _ (call (Value.type _) [Value.ref _, Value.ref _]) (fun xv s₁ => wpAny _ _ (pyIter xv) (fun it s₂ => TurnsAt _ _ _ _ _ _ _ _ _ it s₂) _ s₁) _ _); (rename Fr _ _ _ _ => lF'); (with_unfolding_all refine ktuT_zip (xs := [_, _, _]) (ys := [_, _, _]) (by rfl) lF' (by assumption) (by k_mem) (by rfl) (by rfl) (by k_mem) (by rfl) (by rfl) ?_); clear lF'; intro i' l1; (try k_lt l1)))
local macro_rules | `(tactic| walk_at "call builtin:min") => `(tactic| (k_here; (with_reducible show wpAny _ _ (call (Value.builtin _) [Value.int _ _, Value.int _ _]) _ _ _); k_dflt (refine' min2_T ?k1 ?k2 ?k3 ?_; (case k1 => rfl); (case k2 => k_asm); (case k3 => k_asm); k_whole); intro h' tk' t' F' N'; (try dsimp only)))
set_option maxRecDepth 100000 in
set_option maxHeartbeats 8000000 in
theorem lhls_spec (w : World) (p t sh lt : Int) (t1 t2 t3 t4 : Tok) :
    CtrK w 12 120 207 [.int p t1, .int t t2, .int sh t3, .int lt t4] (fun _ => HlsOk p t sh lt)
      (RetL3F (hlsX p t sh lt) (hlsY p t sh lt) (hlsZ p t sh lt)) := by
  dsimp only [CtrK, P0, LS, RetL3F]
  k_fill
  intro mean mg mb dp un gd cn cs a ccd cl outer A₀ base h₀ L m s Q E B F X T hk hpre hdp hun hret
  obtain ⟨hpA, ⟨hp4, hp5, hp6, hp7⟩, hpC, hb0, hb2, hb4, hn0, hn2, hn4⟩ := hpre
  have hp1 := hpA.1
  have hp2 := hpA.2.1
  have hp3 := hpA.2.2
  have hm0 : 0 ≤ min lt (8 - lt) ∧ min lt (8 - lt) ≤ 4 := by omega
  have hm1 : 0 ≤ sh * min lt (8 - lt) := Int.mul_nonneg (by omega) hm0.1
  have hm2 : sh * min lt (8 - lt) < 100 := by
    have h1 : sh * min lt (8 - lt) ≤ 8 * min lt (8 - lt) := Int.mul_le_mul_of_nonneg_right (by omega) hm0.1
    omega
  refine wpAny_call ?_
  k_dflt (refine' enterP ?k1 ?k2 ?k3 ?k5 ?kA ?kF ?kK ?k6 ?k7 ?k8 ?k9 ?kB ?_ ?c2 ?c3 ?c4 ?c5; (case kA => exact rfl); (case kF => exact rfl); (case kK => assumption); (case k1 => k_asm); (case k2 => k_asm); (case k3 => k_asm); (case k5 => k_asm); (case k6 => k_is); (case k7 => k_is); (case k8 => ktr_room); (case k9 => exact BindsTo.of_eq rfl); (case c5 => decide); (case kB => exact locs rfl); (case c2 => exact rfl); (case c3 => exact rfl); (case c4 => exact rfl); k_whole; intro L' h' F' N' B' X' T'; (try dsimp only); (try k_lift B'); (try k_fold))
  (first | (refine Mine.letF F' ?_; clear F'; intro mz43 F') | skip); (first | (refine Mine.letAE ?_; intro envz43) | skip); (first | (refine Mine.genT ?_; intro tkz43) | skip)
  k_steps
  (try dsimp only)
  (with_reducible rename Fr _ _ _ _ => kF)
  (with_reducible rename News _ _ _ _ => kN)
  have h2 := kN _ List.mem_cons_self
  exact hret _ _ _ _ _ _ _ kF.keep h2.2.2 h2.1
end Mine
end
section -- FlG
open PySem PySem.Float64
namespace Mine
/-- what the four branches of `_v` come to -/
theorem rampA {m1 m2 x : UInt64} (h1 : Fin m1) (h2 : Fin m2) (hx : Fin x) (b1 : -2 ≤ rv m1 ∧ rv m1 ≤ 2) (b2 : -2 ≤ rv m2 ∧ rv m2 ≤ 2) (bx : -2 ≤ rv x ∧ rv x ≤ 2) :
    Ap (add m1 (mul (mul (sub m2 m1) x) 4618441417868443648)) (rv m1 + (rv m2 - rv m1) * rv x * 6) (20 * e0) := by
  have he : e0 = 1 / 2199023255552 := rfl
  have hs := subR h2 h1 ⟨by grind, by grind⟩
  generalize sub m2 m1 = d at *
  obtain ⟨fs, s1, s2⟩ := hs
  have bd : -5 ≤ rv d ∧ rv d ≤ 5 := ⟨by grind, by grind⟩
  have bm := mulB bd bx
  have hm := mulR fs hx ⟨by grind, by grind⟩
  generalize mul d x = p at *
  obtain ⟨fm, m3, m4⟩ := hm
  have hm6 := mulR fm c6.1 (by rw [c6.2]; constructor <;> grind)
  rw [c6.2] at hm6
  generalize mul p 4618441417868443648 = u at *
  obtain ⟨fu, u1, u2⟩ := hm6
  have ha := addR h1 fu ⟨by grind, by grind⟩
  generalize add m1 u = z at *
  obtain ⟨fz, z1, z2⟩ := ha
  have e1 := mulB (a := rv d - (rv m2 - rv m1)) (A := e0) ⟨by grind, by grind⟩ bx
  refine ⟨fz, ?_, ?_⟩ <;> grind
/-- the fall of a corner by the place's third-part count on the wheel -/
def fallY (Y t : Int) : Int := if 2 * Y ≤ t then t - 2 * Y else if 2 * Y ≤ 3 * t then 0 else if 2 * Y ≤ 4 * t then 2 * Y - 3 * t else t
theorem vR {m1 m2 hue : UInt64} {H : Rat} {Z t : Int} (h1 : Fin m1) (h2 : Fin m2) (b1 : -2 ≤ rv m1 ∧ rv m1 ≤ 2) (b2 : -2 ≤ rv m2 ∧ rv m2 ≤ 2) (hh : Ap hue H (4 * e0)) (hH : H * (3 * (t : Rat)) = (Z : Rat)) (t1 : 1 ≤ t) (t2 : t ≤ 60) :
    ∃ n : Int, 0 ≤ Z - 3 * n * t ∧ Z - 3 * n * t ≤ 3 * t ∧ Fin (vF m1 m2 hue) ∧
      rv (vF m1 m2 hue) * (t : Rat) ≤ rv m2 * (t : Rat) - (rv m2 - rv m1) * ((fallY (Z - 3 * n * t) t : Int) : Rat) + 16384 * e0 ∧
      rv m2 * (t : Rat) - (rv m2 - rv m1) * ((fallY (Z - 3 * n * t) t : Int) : Rat) ≤ rv (vF m1 m2 hue) * (t : Rat) + 16384 * e0 := by
  have he : e0 = 1 / 2199023255552 := rfl
  obtain ⟨hf, hh1, hh2⟩ := hh
  obtain ⟨n, ⟨xf, x1, x2⟩, x3, x4⟩ := modR hf
  have hv : vF m1 m2 hue = if (Float64.cmp (divmod hue 4607182418800017408).snd 4595172819793696085 == some Ordering.lt) = true then Float64.add m1 (Float64.mul (Float64.mul (Float64.sub m2 m1) (divmod hue 4607182418800017408).snd) 4618441417868443648)
    else if (Float64.cmp (divmod hue 4607182418800017408).snd 4602678819172646912 == some Ordering.lt) = true then m2
    else if (Float64.cmp (divmod hue 4607182418800017408).snd 4604180019048437077 == some Ordering.lt) = true then Float64.add m1 (Float64.mul (Float64.mul (Float64.sub m2 m1) (Float64.sub 4604180019048437077 (divmod hue 4607182418800017408).snd)) 4618441417868443648)
    else m1 := rfl
  rw [hv]
  generalize (divmod hue 4607182418800017408).snd = x at *
  simp only [lt_iff xf c16.1, lt_iff xf ch.1, lt_iff xf c23.1, c16.2, ch.2, c23.2]
  have T1 : (1 : Rat) ≤ (t : Rat) := by exact_mod_cast Rat.intCast_le_intCast.mpr t1
  have T2 : (t : Rat) ≤ 60 := by exact_mod_cast Rat.intCast_le_intCast.mpr t2
  have T0 : (0 : Rat) ≤ (t : Rat) := by grind
  -- the place, t times three
  have hY : ((Z - 3 * n * t : Int) : Rat) = (H - (n : Rat)) * (3 * (t : Rat)) := by push_cast; grind
  generalize hYd : Z - 3 * n * t = Y at *
  have y1 := Rat.mul_le_mul_of_nonneg_right (show rv x - (H - (n : Rat)) ≤ 6 * e0 by grind) T0
  have y2 := Rat.mul_le_mul_of_nonneg_right (show (H - (n : Rat)) - rv x ≤ 6 * e0 by grind) T0
  have x5 := Rat.mul_le_mul_of_nonneg_right x3 T0
  have x6 := Rat.mul_le_mul_of_nonneg_right x4 T0
  have eT : 6 * e0 * (t : Rat) ≤ 360 * e0 := by grind
  have Yl : rv x * (t : Rat) * 3 ≤ (Y : Rat) + 1080 * e0 := by grind
  have Yu : (Y : Rat) ≤ rv x * (t : Rat) * 3 + 1080 * e0 := by grind
  have Y0 : (-1 : Rat) < (Y : Rat) := by grind
  have Y3 : (Y : Rat) < 3 * (t : Rat) + 1 := by grind
  have i0 : -1 < Y := Rat.intCast_lt_intCast.mp (by rw [show ((-1 : Int) : Rat) = -1 by decide +kernel]; exact Y0)
  have i3 : Y < 3 * t + 1 := by exact_mod_cast Y3
  have hD := mulB (a := rv m2 - rv m1) (b := rv x * (t : Rat) * 3 - (Y : Rat)) (A := 4) (B := 1080 * e0) ⟨by grind, by grind⟩ ⟨by grind, by grind⟩
  by_cases k1 : rv x < 6004799503160661 / 36028797018963968
  · rw [if_pos k1]
    have k2 := Rat.mul_le_mul_of_nonneg_right (Rat.le_of_lt k1) T0
    have j1 : 2 * (Y : Rat) < (t : Rat) + 1 := by grind
    have j2 : 2 * Y < t + 1 := by exact_mod_cast j1
    have hF : fallY Y t = t - 2 * Y := by unfold fallY; rw [if_pos (by omega)]
    obtain ⟨rf, r1, r2⟩ := rampA h1 h2 xf b1 b2 ⟨by grind, by grind⟩
    have r3 := Rat.mul_le_mul_of_nonneg_right r1 T0
    have r4 := Rat.mul_le_mul_of_nonneg_right r2 T0
    have eT2 : 20 * e0 * (t : Rat) ≤ 1200 * e0 := by grind
    refine ⟨n, by omega, by omega, rf, ?_, ?_⟩ <;> rw [hYd, hF] <;> push_cast <;> grind
  · rw [if_neg k1]
    by_cases k2 : rv x < 1 / 2
    · rw [if_pos k2]
      have l1 := Rat.mul_le_mul_of_nonneg_right (show 6004799503160661 / 36028797018963968 ≤ rv x by grind) T0
      have l2 := Rat.mul_le_mul_of_nonneg_right (Rat.le_of_lt k2) T0
      have j1 : (t : Rat) < 2 * (Y : Rat) + 1 := by grind
      have j2 : 2 * (Y : Rat) < 3 * (t : Rat) + 1 := by grind
      have j3 : t < 2 * Y + 1 := by exact_mod_cast j1
      have j4 : 2 * Y < 3 * t + 1 := by exact_mod_cast j2
      have hF : fallY Y t = 0 := by unfold fallY; split; omega; rw [if_pos (by omega)]
      refine ⟨n, by omega, by omega, h2, ?_, ?_⟩ <;> rw [hYd, hF] <;> push_cast <;> grind
    · rw [if_neg k2]
      by_cases k3 : rv x < 6004799503160661 / 9007199254740992
      · rw [if_pos k3]
        have l1 := Rat.mul_le_mul_of_nonneg_right (show 1 / 2 ≤ rv x by grind) T0
        have l2 := Rat.mul_le_mul_of_nonneg_right (Rat.le_of_lt k3) T0
        have j1 : 3 * (t : Rat) < 2 * (Y : Rat) + 1 := by grind
        have j2 : 2 * (Y : Rat) < 4 * (t : Rat) + 1 := by grind
        have j3 : 3 * t < 2 * Y + 1 := by exact_mod_cast j1
        have j4 : 2 * Y < 4 * t + 1 := by exact_mod_cast j2
        have hF : fallY Y t = 2 * Y - 3 * t := by
          unfold fallY
          split
          · omega
          · split
            · omega
            · rw [if_pos (by omega)]
        have hs := subR c23.1 xf (by rw [c23.2]; constructor <;> grind)
        rw [c23.2] at hs
        generalize sub 4604180019048437077 x = y at *
        obtain ⟨yf, s1, s2⟩ := hs
        obtain ⟨rf, r1, r2⟩ := rampA h1 h2 yf b1 b2 ⟨by grind, by grind⟩
        have r3 := Rat.mul_le_mul_of_nonneg_right r1 T0
        have r4 := Rat.mul_le_mul_of_nonneg_right r2 T0
        have eT2 : 20 * e0 * (t : Rat) ≤ 1200 * e0 := by grind
        have s3 := Rat.mul_le_mul_of_nonneg_right s1 T0
        have s4 := Rat.mul_le_mul_of_nonneg_right s2 T0
        have hE := mulB (a := rv m2 - rv m1) (b := rv y * (t : Rat) - (2 / 3 * (t : Rat) - rv x * (t : Rat))) (A := 4) (B := 120 * e0) ⟨by grind, by grind⟩ ⟨by grind, by grind⟩
        refine ⟨n, by omega, by omega, rf, ?_, ?_⟩ <;> rw [hYd, hF] <;> push_cast <;> grind
      · rw [if_neg k3]
        have l1 := Rat.mul_le_mul_of_nonneg_right (show 6004799503160661 / 9007199254740992 ≤ rv x by grind) T0
        have j1 : 4 * (t : Rat) < 2 * (Y : Rat) + 1 := by grind
        have j3 : 4 * t < 2 * Y + 1 := by exact_mod_cast j1
        have hF : fallY Y t = t := by
          unfold fallY
          split
          · omega
          · split
            · omega
            · split
              · omega
              · rfl
        refine ⟨n, by omega, by omega, h1, ?_, ?_⟩ <;> rw [hYd, hF] <;> grind
end Mine
end
section -- FlH
open PySem PySem.Float64
namespace Mine
/-- the fall by whole numbers -/
theorem fallI_Y {p t c Y n : Int} (ht : 1 ≤ t) (h : 6 * p - c * t = 2 * Y - 2 * t + 6 * t * n) (h0 : 0 ≤ Y) (h3 : Y ≤ 3 * t) : fallI p t c = fallY Y t := by
  unfold fallI
  have hw : (6 * p - c * t).fmod (6 * t) = if 2 * Y < 2 * t then 2 * Y + 4 * t else 2 * Y - 2 * t := by
    rw [Int.fmod_eq_emod_of_nonneg _ (by omega), h, Int.add_mul_emod_self_left]
    split
    · rw [← Int.add_mul_emod_self_left (2 * Y - 2 * t) (6 * t) 1, Int.emod_eq_of_lt (by omega) (by omega)]; omega
    · rw [Int.emod_eq_of_lt (by omega) (by omega)]
  rw [hw]
  unfold fallY
  rw [Int.min_def, Int.max_def, Int.min_def]
  split <;> split <;> split <;> split <;> (try split) <;> (try split) <;> omega
theorem divI_Ap (i : Int) (d : Int) (hd : 1 ≤ d) (hb : -(4096 * d) ≤ i ∧ i ≤ 4096 * d) : Ap (divI i d) ((i : Rat) / (d : Rat)) e0 := by
  obtain ⟨k, rfl⟩ : ∃ k : Nat, d = k := ⟨d.toNat, by omega⟩
  have := divIR i k (by omega) hb
  have e : divI i (k : Int) = ofFrac (decide (i < 0) != false) i.natAbs k := by
    unfold divI
    rw [Int.natAbs_natCast, show decide ((k : Int) < 0) = false from decide_eq_false (by omega)]
  rw [e]
  have e2 : (((k : Nat) : Int) : Rat) = (k : Rat) := Rat.intCast_natCast k
  rw [e2]
  exact this
theorem div_mul {i d : Int} (hd : 1 ≤ d) : (i : Rat) / (d : Rat) * (d : Rat) = (i : Rat) := by
  apply Rat.div_mul_cancel
  intro h
  have := Rat.intCast_eq_zero_iff.mp h
  omega
/-- the least of a lightness and what it lacks, in eighths -/
theorem m12R {sh lt : Int} (h1 : 1 ≤ sh) (h2 : sh ≤ 8) (h3 : 1 ≤ lt) (h4 : lt ≤ 7) :
    Ap (hlsM2 (divI lt 8) (divI sh 8)) (((8 * lt + sh * min lt (8 - lt) : Int) : Rat) / 64) (16 * e0) ∧ Ap (hlsM1 (divI lt 8) (divI sh 8)) (((8 * lt - sh * min lt (8 - lt) : Int) : Rat) / 64) (32 * e0) := by
  have he : e0 = 1 / 2199023255552 := rfl
  have hl := divI_Ap lt 8 (by decide) (by omega)
  have hs := divI_Ap sh 8 (by decide) (by omega)
  have hl8 : (lt : Rat) / ((8 : Int) : Rat) = (lt : Rat) / 8 := rfl
  have hs8 : (sh : Rat) / ((8 : Int) : Rat) = (sh : Rat) / 8 := rfl
  rw [hl8] at hl
  rw [hs8] at hs
  have r1 : (1 : Rat) ≤ (sh : Rat) := by exact_mod_cast Rat.intCast_le_intCast.mpr h1
  have r2 : (sh : Rat) ≤ 8 := by exact_mod_cast Rat.intCast_le_intCast.mpr h2
  have r3 : (1 : Rat) ≤ (lt : Rat) := by exact_mod_cast Rat.intCast_le_intCast.mpr h3
  have r4 : (lt : Rat) ≤ 7 := by exact_mod_cast Rat.intCast_le_intCast.mpr h4
  unfold hlsM1
  have hM2 : Ap (hlsM2 (divI lt 8) (divI sh 8)) (((8 * lt + sh * min lt (8 - lt) : Int) : Rat) / 64) (16 * e0) := by
    unfold hlsM2
    generalize divI lt 8 = l at *
    generalize divI sh 8 = s at *
    obtain ⟨fl, l1, l2⟩ := hl
    obtain ⟨fs, s1, s2⟩ := hs
    have hle : (leB l 4602678819172646912 = true) ↔ rv l ≤ 1 / 2 := by
      unfold leB
      rw [Bool.or_eq_true, lt_iff fl ch.1, eq_iff fl ch.1, ch.2]
      constructor
      · rintro (h | h)
        · exact Rat.le_of_lt h
        · rw [h]; exact Rat.le_refl
      · intro h; exact (Rat.le_iff_lt_or_eq).mp h
    have hls := mulB (a := rv l - (lt : Rat) / 8) (A := e0) (b := rv s) (B := 2) ⟨by grind, by grind⟩ ⟨by grind, by grind⟩
    have hls2 := mulB (a := rv s - (sh : Rat) / 8) (A := e0) (b := (lt : Rat) / 8) (B := 1) ⟨by grind, by grind⟩ ⟨by grind, by grind⟩
    have hlb := mulB (a := rv l) (A := 1) (b := rv s) (B := 2) ⟨by grind, by grind⟩ ⟨by grind, by grind⟩
    by_cases hc : leB l 4602678819172646912 = true
    · rw [if_pos hc]
      have hc2 := hle.mp hc
      have j1 : (lt : Rat) < 5 := by grind
      have j2 : lt < 5 := by exact_mod_cast j1
      have hmin : min lt (8 - lt) = lt := by omega
      rw [hmin]
      have ha := addR one_rv.1 fs (by rw [one_rv.2]; constructor <;> grind)
      rw [one_rv.2] at ha
      generalize add 4607182418800017408 s = u at *
      obtain ⟨fu, u1, u2⟩ := ha
      have hb := mulB (a := rv l) (A := 1) (b := rv u) (B := 3) ⟨by grind, by grind⟩ ⟨by grind, by grind⟩
      have hm := mulR fl fu ⟨by grind, by grind⟩
      generalize mul l u = v at *
      obtain ⟨fv, v1, v2⟩ := hm
      have hd := mulB (a := rv l) (A := 1) (b := rv u - (1 + rv s)) (B := e0) ⟨by grind, by grind⟩ ⟨by grind, by grind⟩
      refine ⟨fv, ?_, ?_⟩ <;> push_cast <;> grind
    · rw [if_neg hc]
      have hc2 : ¬ rv l ≤ 1 / 2 := fun h => hc (hle.mpr h)
      have j1 : 3 < (lt : Rat) := by grind
      have j2 : 3 < lt := by exact_mod_cast j1
      have hmin : min lt (8 - lt) = 8 - lt := by omega
      rw [hmin]
      have ha := addR fl fs ⟨by grind, by grind⟩
      have hm := mulR fl fs ⟨by grind, by grind⟩
      generalize add l s = u at *
      generalize mul l s = v at *
      obtain ⟨fu, u1, u2⟩ := ha
      obtain ⟨fv, v1, v2⟩ := hm
      have hz := subR fu fv ⟨by grind, by grind⟩
      generalize sub u v = z at *
      obtain ⟨fz, z1, z2⟩ := hz
      refine ⟨fz, ?_, ?_⟩ <;> push_cast <;> grind
  refine ⟨hM2, ?_⟩
  obtain ⟨fm, m1, m2⟩ := hM2
  generalize hlsM2 (divI lt 8) (divI sh 8) = m at *
  generalize divI lt 8 = l at *
  obtain ⟨fl, l1, l2⟩ := hl
  have hb : 0 ≤ sh * min lt (8 - lt) ∧ sh * min lt (8 - lt) ≤ 32 := by
    have hm0 : 1 ≤ min lt (8 - lt) ∧ min lt (8 - lt) ≤ 4 := by omega
    generalize min lt (8 - lt) = q at *
    exact ⟨Int.mul_nonneg (by omega) (by omega), Int.le_trans (Int.mul_le_mul h2 hm0.2 (by omega) (by omega)) (by decide)⟩
  generalize sh * min lt (8 - lt) = K at *
  have k1 : (0 : Rat) ≤ (K : Rat) := by exact_mod_cast Rat.intCast_le_intCast.mpr hb.1
  have k2 : (K : Rat) ≤ 32 := by exact_mod_cast Rat.intCast_le_intCast.mpr hb.2
  push_cast at m1 m2 ⊢
  have hu := mulR c2.1 fl (by rw [c2.2]; constructor <;> grind)
  rw [c2.2] at hu
  generalize mul 4611686018427387904 l = u at *
  obtain ⟨fu, u1, u2⟩ := hu
  have hz := subR fu fm ⟨by grind, by grind⟩
  generalize sub u m = z at *
  obtain ⟨fz, z1, z2⟩ := hz
  refine ⟨fz, ?_, ?_⟩ <;> grind
end Mine
end
section -- FlI
open PySem PySem.Float64
namespace Mine
theorem absR {x : UInt64} (hx : Fin x) : Fin (Float64.abs x) ∧ (rv (Float64.abs x) = rv x ∨ rv (Float64.abs x) = - rv x) := by
  obtain ⟨a, m, e, hx⟩ := hx
  have hN := x.toNat_lt
  have hnan : isNaN x = false := by unfold isNaN; rw [hx]
  have ht : x.toNat % 2 ^ 63 < infMag := by
    have hi : infMag = 2047 * 2 ^ 52 := rfl
    unfold decode at hx
    simp only at hx
    split at hx
    · split at hx <;> cases hx
    · rename_i h
      have : x.toNat / 2 ^ 52 % 2048 ≠ 2047 := by simpa using h
      omega
  have hxp : ∃ b, x = pack b (x.toNat % 2 ^ 63) := by
    refine ⟨decide (2 ^ 63 ≤ x.toNat), ?_⟩
    apply UInt64.toNat_inj.mp
    rw [pack_toNat _ (Nat.mod_lt _ (by decide))]
    by_cases h : 2 ^ 63 ≤ x.toNat
    · simp only [h, decide_true, if_true]; omega
    · simp only [h, decide_false]; simp; omega
  have habs : Float64.abs x = pack false (x.toNat % 2 ^ 63) := by
    unfold Float64.abs; rw [hnan]; rfl
  obtain ⟨b, hb⟩ := hxp
  obtain ⟨m', e', hd, _⟩ := decode_pack false ht
  rw [habs]
  generalize x.toNat % 2 ^ 63 = T at *
  refine ⟨⟨_, _, _, hd⟩, ?_⟩
  unfold rv
  rw [hb, val_pack _ ht, val_pack _ ht]
  cases b
  · left; rfl
  · right
    simp only [sgn, Bool.false_eq_true, if_false, if_true, Rat.intCast_neg, Rat.div_def, Rat.neg_mul, Rat.neg_neg]
/-- a part that is near its due -/
def PartOk (v : UInt64) (t due : Int) : Prop := Fin v ∧ rv v * (t : Rat) * 64 ≤ (due : Rat) + 2097152 * e0 ∧ (due : Rat) ≤ rv v * (t : Rat) * 64 + 2097152 * e0
theorem part_range {v : UInt64} {t due : Int} (h : PartOk v t due) (t1 : 1 ≤ t) (d1 : 0 ≤ due) (d2 : due ≤ 64 * t) : -e0 * 32768 ≤ rv v ∧ rv v ≤ 1 + 32768 * e0 := by
  have he : e0 = 1 / 2199023255552 := rfl
  have T1 : (1 : Rat) ≤ (t : Rat) := by exact_mod_cast Rat.intCast_le_intCast.mpr t1
  have D1 : (0 : Rat) ≤ (due : Rat) := by exact_mod_cast Rat.intCast_le_intCast.mpr d1
  have D2 : (due : Rat) ≤ 64 * (t : Rat) := by exact_mod_cast Rat.intCast_le_intCast.mpr d2
  obtain ⟨_, h1, h2⟩ := h
  have T0 : (0 : Rat) < (t : Rat) := by grind
  constructor
  · apply Rat.le_of_mul_le_mul_right _ T0; grind
  · apply Rat.le_of_mul_le_mul_right _ T0; grind
theorem near_part {v : UInt64} {t due : Int} (h : PartOk v t due) (t1 : 1 ≤ t) (t2 : t ≤ 60) (d1 : 0 ≤ due) (d2 : due ≤ 64 * t) : nearB (up64 v t) due = true := by
  have he : e0 = 1 / 2199023255552 := rfl
  have hr := part_range h t1 d1 d2
  have T1 : (1 : Rat) ≤ (t : Rat) := by exact_mod_cast Rat.intCast_le_intCast.mpr t1
  have T2 : (t : Rat) ≤ 60 := by exact_mod_cast Rat.intCast_le_intCast.mpr t2
  have D1 : (0 : Rat) ≤ (due : Rat) := by exact_mod_cast Rat.intCast_le_intCast.mpr d1
  have D2 : (due : Rat) ≤ 64 * (t : Rat) := by exact_mod_cast Rat.intCast_le_intCast.mpr d2
  obtain ⟨hf, h1, h2⟩ := h
  have i64 := intR 64 (by decide)
  have it := intR t (by omega)
  have id := intR due (by omega)
  have e64 : ((64 : Int) : Rat) = 64 := rfl
  rw [e64] at i64
  unfold nearB
  show (Float64.cmp (Float64.abs (Float64.sub (Float64.mul (Float64.mul v (Float64.ofInt 64)) (Float64.ofInt t)) (Float64.ofInt due))) 4562254508917369340 == some Ordering.lt) = true
  generalize ofInt 64 = a at *
  generalize ofInt t = b at *
  generalize ofInt due = d at *
  obtain ⟨fa, a1, a2⟩ := i64
  obtain ⟨fb, b1, b2⟩ := it
  obtain ⟨fd, dd1, dd2⟩ := id
  have p1 := mulB (a := rv v) (A := 2) (b := rv a) (B := 65) ⟨by grind, by grind⟩ ⟨by grind, by grind⟩
  have m1 := mulR hf fa ⟨by grind, by grind⟩
  have q1 := mulB (a := rv v) (A := 2) (b := rv a - 64) (B := e0) ⟨by grind, by grind⟩ ⟨by grind, by grind⟩
  generalize mul v a = u at *
  obtain ⟨fu, u1, u2⟩ := m1
  have p2 : -4000 ≤ rv u * rv b ∧ rv u * rv b ≤ 4000 := by
    have := mulB (a := rv u) (A := 66) (b := rv b) (B := 60 + e0) ⟨by grind, by grind⟩ ⟨by grind, by grind⟩
    constructor <;> grind
  have m2 := mulR fu fb ⟨by grind, by grind⟩
  have q2 := mulB (a := rv u) (A := 133) (b := rv b - (t : Rat)) (B := e0) ⟨by grind, by grind⟩ ⟨by grind, by grind⟩
  have q3 := mulB (a := rv u - rv v * 64) (A := 4 * e0) (b := (t : Rat)) (B := 60) ⟨by grind, by grind⟩ ⟨by grind, by grind⟩
  generalize mul u b = w at *
  obtain ⟨fw, w1, w2⟩ := m2
  have m3 := subR fw fd ⟨by grind, by grind⟩
  generalize sub w d = z at *
  obtain ⟨fz, z1, z2⟩ := m3
  have ha := absR fz
  rw [lt_iff ha.1 cmil.1, cmil.2]
  rcases ha.2 with h | h <;> rw [h] <;> grind
end Mine
end
section -- FlJ
open PySem PySem.Float64
namespace Mine
theorem fall_range {p t c : Int} (ht : 1 ≤ t) : 0 ≤ fallI p t c ∧ fallI p t c ≤ t := by
  unfold fallI; omega
theorem hls_part {p t c Z sh lt : Int} {hue : UInt64} {H : Rat} (h1 : 1 ≤ sh) (h2 : sh ≤ 8) (h3 : 1 ≤ lt) (h4 : lt ≤ 7) (t1 : 1 ≤ t) (t2 : t ≤ 60) (hh : Ap hue H (4 * e0)) (hH : H * (3 * (t : Rat)) = (Z : Rat)) (hZ : 6 * p - c * t = 2 * Z - 2 * t) :
    PartOk (vF (hlsM1 (divI lt 8) (divI sh 8)) (hlsM2 (divI lt 8) (divI sh 8)) hue) t (hlsDue p t sh lt c) ∧ 0 ≤ hlsDue p t sh lt c ∧ hlsDue p t sh lt c ≤ 64 * t := by
  have he : e0 = 1 / 2199023255552 := rfl
  obtain ⟨⟨f2, m3, m4⟩, ⟨f1, m1, m2⟩⟩ := m12R h1 h2 h3 h4
  have hfr := fall_range (p := p) (c := c) t1
  have hdue : hlsDue p t sh lt c = 8 * lt * t + sh * min lt (8 - lt) * (t - 2 * fallI p t c) := rfl
  rw [hdue]
  have hK : 0 ≤ sh * min lt (8 - lt) ∧ sh * min lt (8 - lt) ≤ 8 * lt ∧ sh * min lt (8 - lt) ≤ 64 - 8 * lt := by
    have hm0 : 1 ≤ min lt (8 - lt) ∧ min lt (8 - lt) ≤ lt ∧ min lt (8 - lt) ≤ 8 - lt := by omega
    generalize min lt (8 - lt) = q at *
    refine ⟨Int.mul_nonneg (by omega) (by omega), ?_, ?_⟩
    · exact Int.le_trans (Int.mul_le_mul h2 hm0.2.1 (by omega) (by omega)) (by omega)
    · exact Int.le_trans (Int.mul_le_mul h2 hm0.2.2 (by omega) (by omega)) (by omega)
  generalize hlsM1 (divI lt 8) (divI sh 8) = a at *
  generalize hlsM2 (divI lt 8) (divI sh 8) = b at *
  generalize sh * min lt (8 - lt) = K at *
  have K0 : (0 : Rat) ≤ (K : Rat) := by exact_mod_cast Rat.intCast_le_intCast.mpr hK.1
  have K1 : (K : Rat) ≤ 8 * (lt : Rat) := by exact_mod_cast Rat.intCast_le_intCast.mpr hK.2.1
  have K2 : (K : Rat) ≤ 64 - 8 * (lt : Rat) := by exact_mod_cast Rat.intCast_le_intCast.mpr hK.2.2
  push_cast at m1 m2 m3 m4
  obtain ⟨n, y0, y3, fv, v1, v2⟩ := vR f1 f2 ⟨by grind, by grind⟩ ⟨by grind, by grind⟩ hh hH t1 t2
  have hF := fallI_Y (p := p) (c := c) (Y := Z - 3 * n * t) (n := n) t1 (by grind) y0 y3
  rw [hF] at hfr ⊢
  generalize fallY (Z - 3 * n * t) t = F at *
  have T1 : (1 : Rat) ≤ (t : Rat) := by exact_mod_cast Rat.intCast_le_intCast.mpr t1
  have T2 : (t : Rat) ≤ 60 := by exact_mod_cast Rat.intCast_le_intCast.mpr t2
  have F1 : (0 : Rat) ≤ (F : Rat) := by exact_mod_cast Rat.intCast_le_intCast.mpr hfr.1
  have F2 : (F : Rat) ≤ (t : Rat) := by exact_mod_cast Rat.intCast_le_intCast.mpr hfr.2
  have q1 := mulB (a := rv b - (8 * (lt : Rat) + (K : Rat)) / 64) (A := 16 * e0) (b := (t : Rat)) (B := 60) ⟨by grind, by grind⟩ ⟨by grind, by grind⟩
  have q2 := mulB (a := (rv b - rv a) - (K : Rat) / 32) (A := 48 * e0) (b := (F : Rat)) (B := 60) ⟨by grind, by grind⟩ ⟨by grind, by grind⟩
  refine ⟨⟨fv, ?_, ?_⟩, ?_, ?_⟩
  · push_cast; grind
  · push_cast; grind
  · have := Int.mul_nonneg hK.1 (show 0 ≤ t - F by omega)
    have h8 := Int.mul_nonneg (show 0 ≤ 8 * lt - K by omega) (show 0 ≤ t by omega)
    grind
  · have := Int.mul_nonneg hK.1 (show 0 ≤ F by omega)
    have h8 := Int.mul_nonneg (show 0 ≤ 64 - 8 * lt - K by omega) (show 0 ≤ t by omega)
    grind
theorem hls_all {p t sh lt : Int} (h1 : 1 ≤ sh) (h2 : sh ≤ 8) (h3 : 1 ≤ lt) (h4 : lt ≤ 7) (t1 : 1 ≤ t) (t2 : t ≤ 60) (p1 : -200 ≤ p) (p2 : p ≤ 200) :
    (PartOk (hlsX p t sh lt) t (hlsDue p t sh lt 0) ∧ 0 ≤ hlsDue p t sh lt 0 ∧ hlsDue p t sh lt 0 ≤ 64 * t) ∧
    (PartOk (hlsY p t sh lt) t (hlsDue p t sh lt 2) ∧ 0 ≤ hlsDue p t sh lt 2 ∧ hlsDue p t sh lt 2 ≤ 64 * t) ∧
    (PartOk (hlsZ p t sh lt) t (hlsDue p t sh lt 4) ∧ 0 ≤ hlsDue p t sh lt 4 ∧ hlsDue p t sh lt 4 ≤ 64 * t) := by
  have he : e0 = 1 / 2199023255552 := rfl
  have hd := divI_Ap p t t1 (by omega)
  have hq := div_mul (i := p) t1
  have T1 : (1 : Rat) ≤ (t : Rat) := by exact_mod_cast Rat.intCast_le_intCast.mpr t1
  have T2 : (t : Rat) ≤ 60 := by exact_mod_cast Rat.intCast_le_intCast.mpr t2
  have P1 : (-200 : Rat) ≤ (p : Rat) := by have := Rat.intCast_le_intCast.mpr p1; rwa [show ((-200 : Int) : Rat) = -200 by decide +kernel] at this
  have P2 : (p : Rat) ≤ 200 := by have := Rat.intCast_le_intCast.mpr p2; rwa [show ((200 : Int) : Rat) = 200 by decide +kernel] at this
  have q1 : -200 ≤ (p : Rat) / (t : Rat) ∧ (p : Rat) / (t : Rat) ≤ 200 := by
    constructor
    · apply Rat.le_of_mul_le_mul_right _ (show (0 : Rat) < (t : Rat) by grind); grind
    · apply Rat.le_of_mul_le_mul_right _ (show (0 : Rat) < (t : Rat) by grind); grind
  refine ⟨?_, ?_, ?_⟩
  · refine hls_part (Z := 3 * p + t) (H := (p : Rat) / (t : Rat) + 1 / 3) h1 h2 h3 h4 t1 t2 ?_ ?_ (by omega)
    · obtain ⟨f, d1, d2⟩ := hd
      have ha := addR f c13.1 (by rw [c13.2]; constructor <;> grind)
      rw [c13.2] at ha
      obtain ⟨f2, a1, a2⟩ := ha
      exact ⟨f2, by grind, by grind⟩
    · push_cast; grind
  · refine hls_part (Z := 3 * p) (H := (p : Rat) / (t : Rat)) h1 h2 h3 h4 t1 t2 (hd.mono (by grind)) ?_ (by omega)
    push_cast; grind
  · refine hls_part (Z := 3 * p - t) (H := (p : Rat) / (t : Rat) - 1 / 3) h1 h2 h3 h4 t1 t2 ?_ ?_ (by omega)
    · obtain ⟨f, d1, d2⟩ := hd
      have ha := subR f c13.1 (by rw [c13.2]; constructor <;> grind)
      rw [c13.2] at ha
      obtain ⟨f2, a1, a2⟩ := ha
      exact ⟨f2, by grind, by grind⟩
    · push_cast; grind
theorem share_ne {sh : Int} (h1 : 1 ≤ sh) (h2 : sh ≤ 8) : (Float64.cmp (divI sh 8) 0 == some Ordering.eq) = false := by
  have he : e0 = 1 / 2199023255552 := rfl
  obtain ⟨f, d1, d2⟩ := divI_Ap sh 8 (by decide) (by omega)
  have r1 : (1 : Rat) ≤ (sh : Rat) := by exact_mod_cast Rat.intCast_le_intCast.mpr h1
  have hs8 : (sh : Rat) / ((8 : Int) : Rat) = (sh : Rat) / 8 := rfl
  rw [hs8] at d1 d2
  cases h : (Float64.cmp (divI sh 8) 0 == some Ordering.eq)
  · rfl
  · have := (eq_iff f c0.1).mp h
    rw [c0.2] at this
    grind
theorem hls_ok {p t sh lt : Int} (h1 : 1 ≤ sh) (h2 : sh ≤ 8) (h3 : 1 ≤ lt) (h4 : lt ≤ 7) (t1 : 1 ≤ t) (t2 : t ≤ 60) (p1 : -200 ≤ p) (p2 : p ≤ 200) : HlsOk p t sh lt := by
  obtain ⟨⟨x1, x2, x3⟩, ⟨y1, y2, y3⟩, ⟨z1, z2, z3⟩⟩ := hls_all h1 h2 h3 h4 t1 t2 p1 p2
  exact ⟨by omega, by omega, share_ne h1 h2, by omega, by omega, by omega, near_part x1 t1 t2 x2 x3, near_part y1 t1 t2 y2 y3, near_part z1 t1 t2 z2 z3⟩
end Mine
end
section -- FlK
open PySem PySem.Float64
namespace Mine
def fallE (e A t : Int) : Int := if e = 0 then 0 else if e = 1 then A else if e = 2 then t else if e = 3 then t else if e = 4 then t - A else 0
theorem fallI_E {p t c e A n : Int} (ht : 1 ≤ t) (h : 6 * p - c * t = A + e * t + 6 * t * n) (h0 : 0 ≤ A) (h1 : A ≤ t) (he : e = 0 ∨ e = 1 ∨ e = 2 ∨ e = 3 ∨ e = 4 ∨ e = 5) : fallI p t c = fallE e A t := by
  have hw : (6 * p - c * t).fmod (6 * t) = if A + e * t = 6 * t then 0 else A + e * t := by
    rw [Int.fmod_eq_emod_of_nonneg _ (by omega), h, Int.add_mul_emod_self_left]
    split
    · rename_i hh; rw [hh, Int.emod_self]
    · rcases he with rfl | rfl | rfl | rfl | rfl | rfl <;> exact Int.emod_eq_of_lt (by omega) (by omega)
  unfold fallI
  rw [hw]
  unfold fallE
  rw [Int.min_def, Int.max_def, Int.min_def]
  rcases he with rfl | rfl | rfl | rfl | rfl | rfl <;> simp only [if_true, if_false, Int.reduceEq] <;> (repeat' split) <;> omega
theorem partG {v x : UInt64} {lv sh G t : Int} (hv : Ap v ((lv : Rat) / 8) e0) (l1 : 1 ≤ lv) (l2 : lv ≤ 8) (h1 : 1 ≤ sh) (h2 : sh ≤ 8) (t1 : 1 ≤ t) (t2 : t ≤ 60) (hf : Fin x) (g0 : 0 ≤ G) (g1 : G ≤ t)
    (b1 : rv x * (t : Rat) * 8 ≤ (sh : Rat) * (G : Rat) + 8192 * e0) (b2 : (sh : Rat) * (G : Rat) ≤ rv x * (t : Rat) * 8 + 8192 * e0) : PartOk (Float64.mul v (Float64.sub 4607182418800017408 x)) t (lv * (8 * t - sh * G)) ∧ 0 ≤ lv * (8 * t - sh * G) ∧ lv * (8 * t - sh * G) ≤ 64 * t := by
  have he : e0 = 1 / 2199023255552 := rfl
  have T1 : (1 : Rat) ≤ (t : Rat) := by exact_mod_cast Rat.intCast_le_intCast.mpr t1
  have T2 : (t : Rat) ≤ 60 := by exact_mod_cast Rat.intCast_le_intCast.mpr t2
  have L1 : (1 : Rat) ≤ (lv : Rat) := by exact_mod_cast Rat.intCast_le_intCast.mpr l1
  have L2 : (lv : Rat) ≤ 8 := by exact_mod_cast Rat.intCast_le_intCast.mpr l2
  have hk0 : 0 ≤ sh * G := Int.mul_nonneg (by omega) g0
  have hk1 : sh * G ≤ 8 * t := Int.le_trans (Int.mul_le_mul h2 g1 g0 (by omega)) (Int.le_refl _)
  have K0 : (0 : Rat) ≤ (sh : Rat) * (G : Rat) := by exact_mod_cast Rat.intCast_le_intCast.mpr hk0
  have K1 : (sh : Rat) * (G : Rat) ≤ 8 * (t : Rat) := by exact_mod_cast Rat.intCast_le_intCast.mpr hk1
  have bx : -1 ≤ rv x ∧ rv x ≤ 2 := by
    have T0 : (0 : Rat) < (t : Rat) := by grind
    constructor
    · apply Rat.le_of_mul_le_mul_right _ T0; grind
    · apply Rat.le_of_mul_le_mul_right _ T0; grind
  obtain ⟨fv, v1, v2⟩ := hv
  have hs := subR one_rv.1 hf (by rw [one_rv.2]; constructor <;> grind)
  rw [one_rv.2] at hs
  generalize sub 4607182418800017408 x = y at *
  obtain ⟨fy, y1, y2⟩ := hs
  have p1 := mulB (a := rv v) (A := 2) (b := rv y) (B := 3) ⟨by grind, by grind⟩ ⟨by grind, by grind⟩
  have hm := mulR fv fy ⟨by grind, by grind⟩
  generalize mul v y = z at *
  obtain ⟨fz, z1, z2⟩ := hm
  -- z T 64 against lv (8 T - K)
  generalize hK : (sh : Rat) * (G : Rat) = K at *
  have q0 := mulB (a := rv z - rv v * rv y) (A := e0) (b := (t : Rat)) (B := 60) ⟨by grind, by grind⟩ ⟨by grind, by grind⟩
  have q1 := mulB (a := rv y - (1 - rv x)) (A := e0) (b := (t : Rat)) (B := 60) ⟨by grind, by grind⟩ ⟨by grind, by grind⟩
  have q2 := mulB (a := rv v) (A := 2) (b := rv y * (t : Rat) * 8 - (8 * (t : Rat) - K)) (B := 9000 * e0) ⟨by grind, by grind⟩ ⟨by grind, by grind⟩
  have q3 := mulB (a := rv v - (lv : Rat) / 8) (A := e0) (b := 8 * (t : Rat) - K) (B := 480) ⟨by grind, by grind⟩ ⟨by grind, by grind⟩
  refine ⟨⟨fz, ?_, ?_⟩, ?_, ?_⟩
  · push_cast; rw [hK]; grind
  · push_cast; rw [hK]; grind
  · exact Int.mul_nonneg (by omega) (by omega)
  · have := Int.mul_le_mul l2 (show 8 * t - sh * G ≤ 8 * t by omega) (by omega) (by decide)
    omega
end Mine
end
section -- FlL
open PySem PySem.Float64
namespace Mine
structure HsvParts (p t sh lv : Int) : Prop where
  fin : Float64.isFinite (Float64.mul (divI (p + 50 * t) t) 4618441417868443648) = true
  i : (hsvI (divI (p + 50 * t) t)).natAbs < 1000
  r : PartOk (hsvR (divI (p + 50 * t) t) (divI sh 8) (divI lv 8)) t (lv * (8 * t - sh * fallI p t 0)) ∧ 0 ≤ lv * (8 * t - sh * fallI p t 0) ∧ lv * (8 * t - sh * fallI p t 0) ≤ 64 * t
  g : PartOk (hsvG (divI (p + 50 * t) t) (divI sh 8) (divI lv 8)) t (lv * (8 * t - sh * fallI p t 2)) ∧ 0 ≤ lv * (8 * t - sh * fallI p t 2) ∧ lv * (8 * t - sh * fallI p t 2) ≤ 64 * t
  b : PartOk (hsvB (divI (p + 50 * t) t) (divI sh 8) (divI lv 8)) t (lv * (8 * t - sh * fallI p t 4)) ∧ 0 ≤ lv * (8 * t - sh * fallI p t 4) ∧ lv * (8 * t - sh * fallI p t 4) ≤ 64 * t
abbrev Dn (x : UInt64) (t due : Int) : Prop := PartOk x t due ∧ 0 ≤ due ∧ due ≤ 64 * t
theorem dueE {x : UInt64} {t lv sh a b : Int} (h : Dn x t (lv * (8 * t - sh * a))) (e : b = a) : Dn x t (lv * (8 * t - sh * b)) := e ▸ h
theorem hsv_all {p t sh lv : Int} (h1 : 1 ≤ sh) (h2 : sh ≤ 8) (h3 : 1 ≤ lv) (h4 : lv ≤ 8) (t1 : 1 ≤ t) (t2 : t ≤ 60) (p1 : -50 ≤ p) (p2 : p ≤ 49 + t) : HsvParts p t sh lv := by
  have he : e0 = 1 / 2199023255552 := rfl
  have T1 : (1 : Rat) ≤ (t : Rat) := by exact_mod_cast Rat.intCast_le_intCast.mpr t1
  have T2 : (t : Rat) ≤ 60 := by exact_mod_cast Rat.intCast_le_intCast.mpr t2
  have T0 : (0 : Rat) < (t : Rat) := by grind
  have S1 : (1 : Rat) ≤ (sh : Rat) := by exact_mod_cast Rat.intCast_le_intCast.mpr h1
  have S2 : (sh : Rat) ≤ 8 := by exact_mod_cast Rat.intCast_le_intCast.mpr h2
  have P2 : (p : Rat) ≤ 49 + (t : Rat) := by exact_mod_cast Rat.intCast_le_intCast.mpr p2
  have hd := divI_Ap (p + 50 * t) t t1 (by omega)
  have hq := div_mul (i := p + 50 * t) t1
  have hH : (0 : Rat) ≤ ((p + 50 * t : Int) : Rat) := by
    have := Rat.intCast_le_intCast.mpr (show 0 ≤ p + 50 * t by omega)
    exact_mod_cast this
  have q1 : 0 ≤ ((p + 50 * t : Int) : Rat) / (t : Rat) ∧ ((p + 50 * t : Int) : Rat) / (t : Rat) ≤ 100 := by
    constructor
    · apply Rat.le_of_mul_le_mul_right _ T0; grind
    · apply Rat.le_of_mul_le_mul_right _ T0; rw [hq]; push_cast; grind
  have hy0 : 0 ≤ rv (Float64.mul (divI (p + 50 * t) t) 4618441417868443648) := by
    by_cases hz : p + 50 * t = 0
    · have ht : t = 1 := by omega
      have hp : p = -50 := by omega
      subst ht hp
      have : Float64.mul (divI (-50 + 50 * 1) 1) 4618441417868443648 = 0 := by decide +kernel
      rw [this, c0.2]; decide +kernel
    · have hpos : (1 : Rat) ≤ ((p + 50 * t : Int) : Rat) := by
        have := Rat.intCast_le_intCast.mpr (show 1 ≤ p + 50 * t by omega)
        exact_mod_cast this
      have q3 : 1 / 60 ≤ ((p + 50 * t : Int) : Rat) / (t : Rat) := by
        apply Rat.le_of_mul_le_mul_right _ T0; rw [hq]; grind
      obtain ⟨f, d1, d2⟩ := hd
      have hm := mulR f c6.1 (by rw [c6.2]; constructor <;> grind)
      rw [c6.2] at hm
      obtain ⟨f2, m1, m2⟩ := hm
      grind
  have hv := divI_Ap lv 8 (by decide) (by omega)
  have hs := divI_Ap sh 8 (by decide) (by omega)
  have hv8 : (lv : Rat) / ((8 : Int) : Rat) = (lv : Rat) / 8 := rfl
  have hs8 : (sh : Rat) / ((8 : Int) : Rat) = (sh : Rat) / 8 := rfl
  rw [hv8] at hv
  rw [hs8] at hs
  generalize hA0 : ((p + 50 * t : Int) : Rat) / (t : Rat) = Hq at *
  obtain ⟨fh, d1, d2⟩ := hd
  have hI : hsvI (divI (p + 50 * t) t) = Flt.toInt truncOf (Float64.mul (divI (p + 50 * t) t) 4618441417868443648) := rfl
  have hFe : hsvF (divI (p + 50 * t) t) = Float64.sub (Float64.mul (divI (p + 50 * t) t) 4618441417868443648) (Float64.ofInt (hsvI (divI (p + 50 * t) t))) := rfl
  have hm := mulR fh c6.1 (by rw [c6.2]; constructor <;> grind)
  rw [c6.2] at hm
  have hRd : ∀ h s v, hsvR h s v = pick6 ((hsvI h).fmod 6) v (hsvQ s v (hsvF h)) (hsvP s v) (hsvP s v) (hsvT s v (hsvF h)) v := fun _ _ _ => rfl
  have hGd : ∀ h s v, hsvG h s v = pick6 ((hsvI h).fmod 6) (hsvT s v (hsvF h)) v v (hsvQ s v (hsvF h)) (hsvP s v) (hsvP s v) := fun _ _ _ => rfl
  have hBd : ∀ h s v, hsvB h s v = pick6 ((hsvI h).fmod 6) (hsvP s v) (hsvP s v) (hsvT s v (hsvF h)) v v (hsvQ s v (hsvF h)) := fun _ _ _ => rfl
  suffices X : Float64.isFinite (Float64.mul (divI (p + 50 * t) t) 4618441417868443648) = true ∧ (hsvI (divI (p + 50 * t) t)).natAbs < 1000 ∧
      Dn (hsvR (divI (p + 50 * t) t) (divI sh 8) (divI lv 8)) t (lv * (8 * t - sh * fallI p t 0)) ∧ Dn (hsvG (divI (p + 50 * t) t) (divI sh 8) (divI lv 8)) t (lv * (8 * t - sh * fallI p t 2)) ∧ Dn (hsvB (divI (p + 50 * t) t) (divI sh 8) (divI lv 8)) t (lv * (8 * t - sh * fallI p t 4)) from
    ⟨X.1, X.2.1, X.2.2.1, X.2.2.2.1, X.2.2.2.2⟩
  rw [hRd, hGd, hBd]
  clear hRd hGd hBd
  generalize divI (p + 50 * t) t = h at *
  generalize divI sh 8 = s at *
  generalize divI lv 8 = v at *
  generalize Float64.mul h 4618441417868443648 = y at *
  obtain ⟨fy, m1, m2⟩ := hm
  obtain ⟨i1, i2⟩ := truncR fy hy0
  rw [← hI] at i1 i2
  generalize hsvI h = i at *
  -- i is small
  have j1 : (-1 : Rat) < (i : Rat) := by grind
  have j2 : (i : Rat) < 601 := by grind
  have j3 : -1 < i := Rat.intCast_lt_intCast.mp (by rw [show ((-1 : Int) : Rat) = -1 by decide +kernel]; exact j1)
  have j4 : i < 601 := Rat.intCast_lt_intCast.mp (by rw [show ((601 : Int) : Rat) = 601 by decide +kernel]; exact j2)
  have hi := intR i (by omega)
  obtain ⟨fi, k1, k2⟩ := hi
  have hsub := subR fy fi ⟨by grind, by grind⟩
  rw [← hFe] at hsub
  generalize hsvF h = f at *
  obtain ⟨ff, f1, f2⟩ := hsub
  -- the place within the sixth
  have hA : ((6 * (p + 50 * t) - i * t : Int) : Rat) = (6 * Hq - (i : Rat)) * (t : Rat) := by
    push_cast at hq ⊢; grind
  generalize hAd : 6 * (p + 50 * t) - i * t = A at *
  have r1 := mulB (a := rv y - 6 * Hq) (A := 8 * e0) (b := (t : Rat)) (B := 60) ⟨by grind, by grind⟩ ⟨by grind, by grind⟩
  have r2 := mulB (a := rv f - (rv y - (i : Rat))) (A := 2 * e0) (b := (t : Rat)) (B := 60) ⟨by grind, by grind⟩ ⟨by grind, by grind⟩
  have r3 := Rat.mul_le_mul_of_nonneg_right i1 (Rat.le_of_lt T0)
  have r4 := Rat.mul_le_mul_of_nonneg_right (Rat.le_of_lt i2) (Rat.le_of_lt T0)
  have A1 : (-1 : Rat) < (A : Rat) := by grind
  have A2 : (A : Rat) < (t : Rat) + 1 := by grind
  have A3 : -1 < A := Rat.intCast_lt_intCast.mp (by rw [show ((-1 : Int) : Rat) = -1 by decide +kernel]; exact A1)
  have A4 : A < t + 1 := by exact_mod_cast A2
  have F1 : rv f * (t : Rat) ≤ (A : Rat) + 600 * e0 := by grind
  have F2 : (A : Rat) ≤ rv f * (t : Rat) + 600 * e0 := by grind
  have bf : -1 ≤ rv f ∧ rv f ≤ 2 := ⟨by grind, by grind⟩
  obtain ⟨fs, s1, s2⟩ := hs
  -- the four values
  have hV : Dn v t (lv * (8 * t - sh * 0)) := by
    obtain ⟨fv, v1, v2⟩ := hv
    have w := mulB (a := rv v - (lv : Rat) / 8) (A := e0) (b := (t : Rat)) (B := 60) ⟨by grind, by grind⟩ ⟨by grind, by grind⟩
    refine ⟨⟨fv, ?_, ?_⟩, ?_, ?_⟩
    · push_cast; grind
    · push_cast; grind
    · exact Int.mul_nonneg (by omega) (by omega)
    · have := Int.mul_le_mul h4 (show 8 * t - sh * 0 ≤ 8 * t by omega) (by omega) (by decide)
      omega
  have hP : Dn (hsvP s v) t (lv * (8 * t - sh * t)) := by
    have w := mulB (a := rv s - (sh : Rat) / 8) (A := e0) (b := (t : Rat)) (B := 60) ⟨by grind, by grind⟩ ⟨by grind, by grind⟩
    exact partG hv h3 h4 h1 h2 t1 t2 fs (by omega) (by omega) (by grind) (by grind)
  have w1 := mulB (a := rv s - (sh : Rat) / 8) (A := e0) (b := rv f * (t : Rat)) (B := 61) ⟨by grind, by grind⟩ ⟨by grind, by grind⟩
  have hQ : Dn (hsvQ s v f) t (lv * (8 * t - sh * A)) := by
    have b := mulB (a := rv s) (A := 2) (b := rv f) (B := 2) ⟨by grind, by grind⟩ ⟨by grind, by grind⟩
    have hm := mulR fs ff ⟨by grind, by grind⟩
    have hd : hsvQ s v f = Float64.mul v (Float64.sub 4607182418800017408 (Float64.mul s f)) := rfl
    rw [hd]
    generalize Float64.mul s f = x at *
    obtain ⟨fx, x1, x2⟩ := hm
    have w2 := mulB (a := rv x - rv s * rv f) (A := e0) (b := (t : Rat)) (B := 60) ⟨by grind, by grind⟩ ⟨by grind, by grind⟩
    have w3 := mulB (a := (sh : Rat)) (A := 8) (b := rv f * (t : Rat) - (A : Rat)) (B := 600 * e0) ⟨by grind, by grind⟩ ⟨by grind, by grind⟩
    exact partG hv h3 h4 h1 h2 t1 t2 fx (by omega) (by omega) (by grind) (by grind)
  have hT : Dn (hsvT s v f) t (lv * (8 * t - sh * (t - A))) := by
    have hd : hsvT s v f = Float64.mul v (Float64.sub 4607182418800017408 (Float64.mul s (Float64.sub 4607182418800017408 f))) := rfl
    rw [hd]
    have hg := subR one_rv.1 ff (by rw [one_rv.2]; constructor <;> grind)
    rw [one_rv.2] at hg
    generalize Float64.sub 4607182418800017408 f = g at *
    obtain ⟨fg, g1, g2⟩ := hg
    have b := mulB (a := rv s) (A := 2) (b := rv g) (B := 3) ⟨by grind, by grind⟩ ⟨by grind, by grind⟩
    have hm := mulR fs fg ⟨by grind, by grind⟩
    generalize Float64.mul s g = x at *
    obtain ⟨fx, x1, x2⟩ := hm
    have w2 := mulB (a := rv x - rv s * rv g) (A := e0) (b := (t : Rat)) (B := 60) ⟨by grind, by grind⟩ ⟨by grind, by grind⟩
    have w4 := mulB (a := rv g - (1 - rv f)) (A := e0) (b := (t : Rat)) (B := 60) ⟨by grind, by grind⟩ ⟨by grind, by grind⟩
    have w5 := mulB (a := rv s - (sh : Rat) / 8) (A := e0) (b := rv g * (t : Rat)) (B := 62) ⟨by grind, by grind⟩ ⟨by grind, by grind⟩
    have w3 := mulB (a := (sh : Rat)) (A := 8) (b := rv g * (t : Rat) - ((t : Rat) - (A : Rat))) (B := 660 * e0) ⟨by grind, by grind⟩ ⟨by grind, by grind⟩
    exact partG hv h3 h4 h1 h2 t1 t2 fx (by omega) (by omega) (by push_cast; grind) (by push_cast; grind)
  refine ⟨fin_isFinite fy, by omega, ?_⟩
  have hk : i.fmod 6 = i % 6 := Int.fmod_eq_emod_of_nonneg _ (by decide)
  rw [hk]
  have hm := Int.mul_ediv_add_emod i 6
  generalize i / 6 = j at *
  have hc : i % 6 = 0 ∨ i % 6 = 1 ∨ i % 6 = 2 ∨ i % 6 = 3 ∨ i % 6 = 4 ∨ i % 6 = 5 := by omega
  generalize i % 6 = k at *
  have key : ∀ (c e n : Int), e + 6 * n = i - 300 - c → (e = 0 ∨ e = 1 ∨ e = 2 ∨ e = 3 ∨ e = 4 ∨ e = 5) → fallI p t c = fallE e A t := by
    intro c e n hn hee
    refine fallI_E (n := n) t1 ?_ (by omega) (by omega) hee
    have : (e + 6 * n) * t = (i - 300 - c) * t := by rw [hn]
    grind
  unfold pick6
  rcases hc with rfl | rfl | rfl | rfl | rfl | rfl
  · exact ⟨dueE hV (key 0 0 (j - 50) (by omega) (by decide)), dueE hT (key 2 4 (j - 51) (by omega) (by decide)), dueE hP (key 4 2 (j - 51) (by omega) (by decide))⟩
  · exact ⟨dueE hQ (key 0 1 (j - 50) (by omega) (by decide)), dueE hV (key 2 5 (j - 51) (by omega) (by decide)), dueE hP (key 4 3 (j - 51) (by omega) (by decide))⟩
  · exact ⟨dueE hP (key 0 2 (j - 50) (by omega) (by decide)), dueE hV (key 2 0 (j - 50) (by omega) (by decide)), dueE hT (key 4 4 (j - 51) (by omega) (by decide))⟩
  · exact ⟨dueE hP (key 0 3 (j - 50) (by omega) (by decide)), dueE hQ (key 2 1 (j - 50) (by omega) (by decide)), dueE hV (key 4 5 (j - 51) (by omega) (by decide))⟩
  · exact ⟨dueE hT (key 0 4 (j - 50) (by omega) (by decide)), dueE hP (key 2 2 (j - 50) (by omega) (by decide)), dueE hV (key 4 0 (j - 50) (by omega) (by decide))⟩
  · exact ⟨dueE hV (key 0 5 (j - 50) (by omega) (by decide)), dueE hP (key 2 3 (j - 50) (by omega) (by decide)), dueE hQ (key 4 1 (j - 50) (by omega) (by decide))⟩
theorem hsv_ok {p t sh lv : Int} (h1 : 1 ≤ sh) (h2 : sh ≤ 8) (h3 : 1 ≤ lv) (h4 : lv ≤ 8) (t1 : 1 ≤ t) (t2 : t ≤ 60) (p1 : -50 ≤ p) (p2 : p ≤ 49 + t) : HsvOk p t sh lv := by
  obtain ⟨f, i, ⟨x1, x2, x3⟩, ⟨y1, y2, y3⟩, ⟨z1, z2, z3⟩⟩ := hsv_all h1 h2 h3 h4 t1 t2 p1 p2
  exact ⟨by omega, by omega, ⟨share_ne h1 h2, f, i⟩, by omega, by omega, by omega, near_part x1 t1 t2 x2 x3, near_part y1 t1 t2 y2 y3, near_part z1 t1 t2 z2 z3⟩
end Mine
end
section -- FlM
open PySem PySem.Float64
namespace Mine
/-- what is told of a part at 2 ** 20 -/
theorem armR {v : UInt64} {t due : Int} (h : Dn v t due) (t1 : 1 ≤ t) (t2 : t ≤ 60) :
    armFin v ∧ ((armX v : Int) : Rat) * (t : Rat) ≤ (due : Rat) * 16384 + (t : Rat) / 2 + 1 / 32 ∧ (due : Rat) * 16384 + (t : Rat) / 2 ≤ ((armX v : Int) : Rat) * (t : Rat) + (t : Rat) + 1 / 32 := by
  have he : e0 = 1 / 2199023255552 := rfl
  obtain ⟨hp, d1, d2⟩ := h
  have hr := part_range hp t1 d1 d2
  have T1 : (1 : Rat) ≤ (t : Rat) := by exact_mod_cast Rat.intCast_le_intCast.mpr t1
  have T2 : (t : Rat) ≤ 60 := by exact_mod_cast Rat.intCast_le_intCast.mpr t2
  have T0 : (0 : Rat) < (t : Rat) := by grind
  obtain ⟨hf, h1, h2⟩ := hp
  have g2 : (1 : Rat) / ((4294967296 : Nat) : Rat) = 1 / 4294967296 := rfl
  have b2 : ((2097152 : Nat) : Rat) = 2097152 := rfl
  have hi := intG grain2 1048576 (by decide)
  have e20 : ((1048576 : Int) : Rat) = 1048576 := rfl
  rw [e20, g2] at hi
  have hX : armX v = Flt.toInt truncOf (Float64.add (Float64.mul v (Float64.ofInt 1048576)) 4602678819172646912) := rfl
  have hF : armFin v = (isFinite (Float64.add (Float64.mul v (Float64.ofInt 1048576)) 4602678819172646912) = true) := rfl
  rw [hF, hX]
  generalize ofInt 1048576 = a at *
  obtain ⟨fa, a1, a2⟩ := hi
  have p1 := mulB (a := rv v) (A := 3 / 2) (b := rv a) (B := 1048577) ⟨by grind, by grind⟩ ⟨by grind, by grind⟩
  have m1 := mulG grain2 hf fa (by rw [b2]; constructor <;> grind)
  rw [g2] at m1
  have q1 := mulB (a := rv v) (A := 2) (b := rv a - 1048576) (B := 1 / 4294967296) ⟨by grind, by grind⟩ ⟨by grind, by grind⟩
  generalize Float64.mul v a = u at *
  obtain ⟨fu, u1, u2⟩ := m1
  have m2 := addG grain2 fu ch.1 (by rw [b2, ch.2]; constructor <;> grind)
  rw [g2, ch.2] at m2
  generalize Float64.add u 4602678819172646912 = y at *
  obtain ⟨fy, y1, y2⟩ := m2
  obtain ⟨i1, i2⟩ := truncR fy (by grind)
  generalize Flt.toInt truncOf y = i at *
  have r3 := Rat.mul_le_mul_of_nonneg_right i1 (Rat.le_of_lt T0)
  have r4 := Rat.mul_le_mul_of_nonneg_right (Rat.le_of_lt i2) (Rat.le_of_lt T0)
  have r5 := mulB (a := rv y - (rv v * 1048576 + 1 / 2)) (A := 4 / 4294967296) (b := (t : Rat)) (B := 60) ⟨by grind, by grind⟩ ⟨by grind, by grind⟩
  refine ⟨fin_isFinite fy, ?_, ?_⟩ <;> grind
theorem armX_lt {v v' : UInt64} {t d d' : Int} (h : Dn v t d) (h' : Dn v' t d') (t1 : 1 ≤ t) (t2 : t ≤ 60) (hd : d < d') : armX v < armX v' := by
  have T1 : (1 : Rat) ≤ (t : Rat) := by exact_mod_cast Rat.intCast_le_intCast.mpr t1
  have T2 : (t : Rat) ≤ 60 := by exact_mod_cast Rat.intCast_le_intCast.mpr t2
  have T0 : (0 : Rat) < (t : Rat) := by grind
  obtain ⟨_, a1, a2⟩ := armR h t1 t2
  obtain ⟨_, b1, b2⟩ := armR h' t1 t2
  have hd' : (d : Rat) + 1 ≤ (d' : Rat) := by exact_mod_cast Rat.intCast_le_intCast.mpr (show d + 1 ≤ d' by omega)
  have hlt : ((armX v : Int) : Rat) < ((armX v' : Int) : Rat) := by
    apply (Rat.mul_lt_mul_right T0).mp; grind
  exact_mod_cast hlt
theorem armX_eq {v : UInt64} {t N : Int} (h : Dn v t (N * t)) (t1 : 1 ≤ t) (t2 : t ≤ 60) : armX v = N * 16384 := by
  have T1 : (1 : Rat) ≤ (t : Rat) := by exact_mod_cast Rat.intCast_le_intCast.mpr t1
  have T2 : (t : Rat) ≤ 60 := by exact_mod_cast Rat.intCast_le_intCast.mpr t2
  have T0 : (0 : Rat) < (t : Rat) := by grind
  obtain ⟨_, a1, a2⟩ := armR h t1 t2
  push_cast at a1 a2
  have h1 : ((armX v : Int) : Rat) < (N : Rat) * 16384 + 1 := by
    apply (Rat.mul_lt_mul_right T0).mp; grind
  have h2 : (N : Rat) * 16384 < ((armX v : Int) : Rat) + 1 := by
    apply (Rat.mul_lt_mul_right T0).mp; grind
  have h3 : armX v < N * 16384 + 1 := Rat.intCast_lt_intCast.mp (by rw [Rat.intCast_add, Rat.intCast_mul]; exact h1)
  have h4 : N * 16384 < armX v + 1 := Rat.intCast_lt_intCast.mp (by rw [Rat.intCast_add, Rat.intCast_mul]; exact h2)
  omega
/-- a part by its fall, the more the less -/
structure Dec (d : Int → Int) (t : Int) : Prop where
  lt : ∀ a b, a < b → d b < d a
  top : ∃ N, d 0 = N * t
  bot : ∃ N, d t = N * t
theorem cmpF {d : Int → Int} {t : Int} {v v' : UInt64} {F F' : Int} (hd : Dec d t) (h : Dn v t (d F)) (h' : Dn v' t (d F')) (t1 : 1 ≤ t) (t2 : t ≤ 60) (hF : F < F') : armX v' < armX v := armX_lt h' h t1 t2 (hd.lt _ _ hF)
theorem cmpLe {d : Int → Int} {t : Int} {v v' : UInt64} {F F' : Int} (hd : Dec d t) (h : Dn v t (d F)) (h' : Dn v' t (d F')) (t1 : 1 ≤ t) (t2 : t ≤ 60) (hF : F ≤ F') (he : F = F' → F = 0 ∨ F = t) : armX v' ≤ armX v := by
  by_cases e : F = F'
  · subst e
    rcases he rfl with rfl | rfl
    · obtain ⟨N, hN⟩ := hd.top
      rw [hN] at h h'
      rw [armX_eq h t1 t2, armX_eq h' t1 t2]; exact Int.le_refl _
    · obtain ⟨N, hN⟩ := hd.bot
      rw [hN] at h h'
      rw [armX_eq h t1 t2, armX_eq h' t1 t2]; exact Int.le_refl _
  · have := cmpF hd h h' t1 t2 (by omega)
    omega
theorem arm_of {d : Int → Int} {p t k A n : Int} {v0 v2 v4 : UInt64} (hd : Dec d t) (t1 : 1 ≤ t) (t2 : t ≤ 60) (h : 6 * p = A + k * t + 6 * t * n) (h0 : 0 ≤ A) (h1 : A < t) (hk : 0 ≤ k ∧ k < 6)
    (P0 : Dn v0 t (d (fallI p t 0))) (P2 : Dn v2 t (d (fallI p t 2))) (P4 : Dn v4 t (d (fallI p t 4))) : armI (armX v0) (armX v2) (armX v4) = k := by
  have key : ∀ (c e m : Int), e + 6 * m = k - c → (e = 0 ∨ e = 1 ∨ e = 2 ∨ e = 3 ∨ e = 4 ∨ e = 5) → fallI p t c = fallE e A t := by
    intro c e m hn hee
    refine fallI_E (n := n + m) t1 ?_ (by omega) (by omega) hee
    have : (e + 6 * m) * t = (k - c) * t := by rw [hn]
    grind
  have hc : k = 0 ∨ k = 1 ∨ k = 2 ∨ k = 3 ∨ k = 4 ∨ k = 5 := by omega
  rcases hc with rfl | rfl | rfl | rfl | rfl | rfl
  · rw [key 0 0 0 (by omega) (by decide)] at P0
    rw [key 2 4 (-1) (by omega) (by decide)] at P2
    rw [key 4 2 (-1) (by omega) (by decide)] at P4
    have c1 := cmpF hd P0 P2 t1 t2 (by simp only [fallE]; simp; omega)
    have c2 := cmpLe hd P2 P4 t1 t2 (by simp only [fallE]; simp; omega) (by simp only [fallE]; simp <;> omega)
    unfold armI; rw [if_pos ⟨by omega, by omega⟩]
  · rw [key 0 1 0 (by omega) (by decide)] at P0
    rw [key 2 5 (-1) (by omega) (by decide)] at P2
    rw [key 4 3 (-1) (by omega) (by decide)] at P4
    have c1 := cmpLe hd P2 P0 t1 t2 (by simp only [fallE]; simp; omega) (by simp only [fallE]; simp <;> omega)
    have c2 := cmpF hd P0 P4 t1 t2 (by simp only [fallE]; simp; omega)
    unfold armI; rw [if_neg (by omega), if_pos ⟨by omega, by omega⟩]
  · rw [key 0 2 0 (by omega) (by decide)] at P0
    rw [key 2 0 0 (by omega) (by decide)] at P2
    rw [key 4 4 (-1) (by omega) (by decide)] at P4
    have c1 := cmpF hd P2 P4 t1 t2 (by simp only [fallE]; simp; omega)
    have c2 := cmpLe hd P4 P0 t1 t2 (by simp only [fallE]; simp; omega) (by simp only [fallE]; simp <;> omega)
    unfold armI; rw [if_neg (by omega), if_neg (by omega), if_pos ⟨by omega, by omega⟩]
  · rw [key 0 3 0 (by omega) (by decide)] at P0
    rw [key 2 1 0 (by omega) (by decide)] at P2
    rw [key 4 5 (-1) (by omega) (by decide)] at P4
    have c1 := cmpLe hd P4 P2 t1 t2 (by simp only [fallE]; simp; omega) (by simp only [fallE]; simp <;> omega)
    have c2 := cmpF hd P2 P0 t1 t2 (by simp only [fallE]; simp; omega)
    unfold armI; rw [if_neg (by omega), if_neg (by omega), if_neg (by omega), if_pos ⟨by omega, by omega⟩]
  · rw [key 0 4 0 (by omega) (by decide)] at P0
    rw [key 2 2 0 (by omega) (by decide)] at P2
    rw [key 4 0 0 (by omega) (by decide)] at P4
    have c1 := cmpF hd P4 P0 t1 t2 (by simp only [fallE]; simp; omega)
    have c2 := cmpLe hd P0 P2 t1 t2 (by simp only [fallE]; simp; omega) (by simp only [fallE]; simp <;> omega)
    unfold armI; rw [if_neg (by omega), if_neg (by omega), if_neg (by omega), if_neg (by omega), if_pos ⟨by omega, by omega⟩]
  · rw [key 0 5 0 (by omega) (by decide)] at P0
    rw [key 2 3 0 (by omega) (by decide)] at P2
    rw [key 4 1 0 (by omega) (by decide)] at P4
    have c1 := cmpLe hd P0 P4 t1 t2 (by simp only [fallE]; simp; omega) (by simp only [fallE]; simp <;> omega)
    have c2 := cmpF hd P4 P2 t1 t2 (by simp only [fallE]; simp; omega)
    unfold armI; rw [if_neg (by omega), if_neg (by omega), if_neg (by omega), if_neg (by omega), if_neg (by omega), if_pos ⟨by omega, by omega⟩]
theorem dec_hsv {sh lv t : Int} (h1 : 1 ≤ sh) (h3 : 1 ≤ lv) : Dec (fun F => lv * (8 * t - sh * F)) t where
  lt := fun a b h => Int.mul_lt_mul_of_pos_left (by have := Int.mul_lt_mul_of_pos_left h (show 0 < sh by omega); omega) (by omega)
  top := ⟨lv * 8, by grind⟩
  bot := ⟨lv * (8 - sh), by grind⟩
theorem dec_hls {K lt t : Int} (h1 : 1 ≤ K) : Dec (fun F => 8 * lt * t + K * (t - 2 * F)) t where
  lt := fun a b h => by have := Int.mul_lt_mul_of_pos_left (show t - 2 * b < t - 2 * a by omega) (show 0 < K by omega); omega
  top := ⟨8 * lt + K, by grind⟩
  bot := ⟨8 * lt - K, by grind⟩
end Mine
end
section -- FlN
open PySem PySem.Float64
namespace Mine
/-- what the three falls of a place say -/
structure Falls (p t a b c : Int) : Prop where
  ra : 0 ≤ a ∧ a ≤ t
  rb : 0 ≤ b ∧ b ≤ t
  rc : 0 ≤ c ∧ c ≤ t
  top : a = 0 ∨ b = 0 ∨ c = 0
  bot : a = t ∨ b = t ∨ c = t
  pa : a = 0 → ∃ n, c - b = 6 * (p - t * n)
  pb : b = 0 → ∃ n, 2 * t + a - c = 6 * (p - t * n)
  pc : c = 0 → ∃ n, 4 * t + b - a = 6 * (p - t * n)
theorem place_parts {p t : Int} (t1 : 1 ≤ t) : ∃ k A n : Int, 6 * p = A + k * t + 6 * t * n ∧ 0 ≤ A ∧ A < t ∧ 0 ≤ k ∧ k < 6 ∧ k = (6 * p) % (6 * t) / t := by
  refine ⟨(6 * p) % (6 * t) / t, (6 * p) % (6 * t) % t, (6 * p) / (6 * t), ?_, ?_, ?_, ?_, ?_, rfl⟩
  · have h1 := Int.mul_ediv_add_emod (6 * p) (6 * t)
    have h2 := Int.mul_ediv_add_emod ((6 * p) % (6 * t)) t
    have h3 : (6 * p) % (6 * t) / t * t = t * ((6 * p) % (6 * t) / t) := Int.mul_comm _ _
    omega
  · exact Int.emod_nonneg _ (by omega)
  · exact Int.emod_lt_of_pos _ (by omega)
  · exact Int.ediv_nonneg (Int.emod_nonneg _ (by omega)) (by omega)
  · exact Int.ediv_lt_of_lt_mul (by omega) (Int.emod_lt_of_pos _ (by omega))
theorem falls_of {p t : Int} (t1 : 1 ≤ t) : Falls p t (fallI p t 0) (fallI p t 2) (fallI p t 4) := by
  obtain ⟨k, A, n, h, h0, h1, hk0, hk1, -⟩ := place_parts (p := p) t1
  have key : ∀ (c e m : Int), e + 6 * m = k - c → (e = 0 ∨ e = 1 ∨ e = 2 ∨ e = 3 ∨ e = 4 ∨ e = 5) → fallI p t c = fallE e A t := by
    intro c e m hn hee
    refine fallI_E (n := n + m) t1 ?_ (by omega) (by omega) hee
    have : (e + 6 * m) * t = (k - c) * t := by rw [hn]
    grind
  have hm : t * (n + 1) = t * n + t := by grind
  have hn6 : 6 * t * n = 6 * (t * n) := by grind
  have hc : k = 0 ∨ k = 1 ∨ k = 2 ∨ k = 3 ∨ k = 4 ∨ k = 5 := by omega
  rcases hc with rfl | rfl | rfl | rfl | rfl | rfl
  · rw [key 0 0 0 (by omega) (by decide), key 2 4 (-1) (by omega) (by decide), key 4 2 (-1) (by omega) (by decide)]
    simp only [fallE, if_true, if_false, Int.reduceEq]
    exact ⟨by omega, by omega, by omega, by omega, by omega, fun _ => ⟨n, by omega⟩, fun _ => ⟨n, by omega⟩, fun _ => ⟨n, by omega⟩⟩
  · rw [key 0 1 0 (by omega) (by decide), key 2 5 (-1) (by omega) (by decide), key 4 3 (-1) (by omega) (by decide)]
    simp only [fallE, if_true, if_false, Int.reduceEq]
    exact ⟨by omega, by omega, by omega, by omega, by omega, fun _ => ⟨n, by omega⟩, fun _ => ⟨n, by omega⟩, fun _ => ⟨n, by omega⟩⟩
  · rw [key 0 2 0 (by omega) (by decide), key 2 0 0 (by omega) (by decide), key 4 4 (-1) (by omega) (by decide)]
    simp only [fallE, if_true, if_false, Int.reduceEq]
    exact ⟨by omega, by omega, by omega, by omega, by omega, fun _ => ⟨n, by omega⟩, fun _ => ⟨n, by omega⟩, fun _ => ⟨n, by omega⟩⟩
  · rw [key 0 3 0 (by omega) (by decide), key 2 1 0 (by omega) (by decide), key 4 5 (-1) (by omega) (by decide)]
    simp only [fallE, if_true, if_false, Int.reduceEq]
    exact ⟨by omega, by omega, by omega, by omega, by omega, fun _ => ⟨n, by omega⟩, fun _ => ⟨n, by omega⟩, fun _ => ⟨n, by omega⟩⟩
  · rw [key 0 4 0 (by omega) (by decide), key 2 2 0 (by omega) (by decide), key 4 0 0 (by omega) (by decide)]
    simp only [fallE, if_true, if_false, Int.reduceEq]
    exact ⟨by omega, by omega, by omega, by omega, by omega, fun _ => ⟨n, by omega⟩, fun _ => ⟨n, by omega⟩, fun _ => ⟨n, by omega⟩⟩
  · rw [key 0 5 0 (by omega) (by decide), key 2 3 0 (by omega) (by decide), key 4 1 0 (by omega) (by decide)]
    simp only [fallE, if_true, if_false, Int.reduceEq]
    exact ⟨by omega, by omega, by omega, by omega, by omega, fun _ => ⟨n + 1, by omega⟩, fun _ => ⟨n, by omega⟩, fun _ => ⟨n, by omega⟩⟩
/-- what _law_near asks, of a float near a small whole number -/
theorem nearN {z : UInt64} {D : Int} {q : Rat} (h : Ap z (D : Rat) q) (hq : q ≤ 1 / 2048) (d1 : -2000 ≤ D) (d2 : D ≤ 2000) : nearB z D = true := by
  have he : e0 = 1 / 2199023255552 := rfl
  have D1 : (-2000 : Rat) ≤ (D : Rat) := by have := Rat.intCast_le_intCast.mpr d1; rwa [show ((-2000 : Int) : Rat) = -2000 by decide +kernel] at this
  have D2 : (D : Rat) ≤ 2000 := by have := Rat.intCast_le_intCast.mpr d2; rwa [show ((2000 : Int) : Rat) = 2000 by decide +kernel] at this
  obtain ⟨fz, z1, z2⟩ := h
  have id := intR D (by omega)
  unfold nearB
  generalize ofInt D = d at *
  obtain ⟨fd, dd1, dd2⟩ := id
  have m3 := subR fz fd ⟨by grind, by grind⟩
  generalize sub z d = y at *
  obtain ⟨fy, y1, y2⟩ := m3
  have ha := absR fy
  rw [lt_iff ha.1 cmil.1, cmil.2]
  rcases ha.2 with h | h <;> rw [h] <;> grind
/-- a quotient that is near c -/
theorem divNear {n d : UInt64} {c w q : Rat} (hn : Fin n) (hd : Fin d) (hw : 0 < w) (h0 : w ≤ rv d) (h1 : rv n ≤ c * rv d + q * w) (h2 : c * rv d ≤ rv n + q * w) (c1 : -100 ≤ c ∧ c ≤ 100) (hq : 0 ≤ q ∧ q ≤ 1) : Ap (Float64.div n d) c (q + e0) := by
  have he : e0 = 1 / 2199023255552 := rfl
  have hp : 0 < rv d := by grind
  have e1 : rv n / rv d * rv d = rv n := Rat.div_mul_cancel (Rat.ne_of_gt hp)
  have hqd := Rat.mul_le_mul_of_nonneg_left h0 hq.1
  have u1 : rv n / rv d ≤ c + q := by
    apply Rat.le_of_mul_le_mul_right _ hp; rw [e1]; grind
  have u2 : c ≤ rv n / rv d + q := by
    apply Rat.le_of_mul_le_mul_right _ hp
    rw [Rat.add_mul, e1]; grind
  have hdv := divR hn hd (Rat.ne_of_gt hp) ⟨by grind, by grind⟩
  obtain ⟨f, v1, v2⟩ := hdv
  exact ⟨f, by grind, by grind⟩
theorem ltF_iff {x y : UInt64} (hx : Fin x) (hy : Fin y) : ltF x y = true ↔ rv x < rv y := lt_iff hx hy
theorem max3R {x y z : UInt64} (hx : Fin x) (hy : Fin y) (hz : Fin z) : Fin (max3F x y z) ∧ rv x ≤ rv (max3F x y z) ∧ rv y ≤ rv (max3F x y z) ∧ rv z ≤ rv (max3F x y z) ∧ (max3F x y z = x ∨ max3F x y z = y ∨ max3F x y z = z) := by
  unfold max3F
  simp only [ltF_iff hx hy, ltF_iff hy hz, ltF_iff hx hz]
  split <;> split <;> refine ⟨by assumption, ?_, ?_, ?_, ?_⟩ <;> first | grind | simp
theorem min3R {x y z : UInt64} (hx : Fin x) (hy : Fin y) (hz : Fin z) : Fin (min3F x y z) ∧ rv (min3F x y z) ≤ rv x ∧ rv (min3F x y z) ≤ rv y ∧ rv (min3F x y z) ≤ rv z ∧ (min3F x y z = x ∨ min3F x y z = y ∨ min3F x y z = z) := by
  unfold min3F
  simp only [ltF_iff hy hx, ltF_iff hz hy, ltF_iff hz hx]
  split <;> split <;> refine ⟨by assumption, ?_, ?_, ?_, ?_⟩ <;> first | grind | simp
end Mine
end
section -- FlO
open PySem PySem.Float64
namespace Mine
abbrev dl : Rat := 32768 * e0
/-- what is known of the greatest and the least of three parts -/
theorem extR {x y z m T M D a b c : Rat} (T1 : 1 ≤ T) (hm : m = x ∨ m = y ∨ m = z) (hx : x ≤ m) (hy : y ≤ m) (hz : z ≤ m) (D0 : 0 ≤ D) (a0 : 0 ≤ a) (b0 : 0 ≤ b) (c0 : 0 ≤ c)
    (h0 : a = 0 ∨ b = 0 ∨ c = 0) (x1 : x * T ≤ M * T - D * a + dl) (x2 : M * T - D * a ≤ x * T + dl) (y1 : y * T ≤ M * T - D * b + dl) (y2 : M * T - D * b ≤ y * T + dl) (z1 : z * T ≤ M * T - D * c + dl) (z2 : M * T - D * c ≤ z * T + dl) :
    m ≤ M + dl ∧ M ≤ m + dl := by
  have he : e0 = 1 / 2199023255552 := rfl
  have T0 : (0 : Rat) < T := by grind
  have da := Rat.mul_nonneg D0 a0
  have db := Rat.mul_nonneg D0 b0
  have dc := Rat.mul_nonneg D0 c0
  have hd : dl ≤ dl * T := by
    have := Rat.mul_le_mul_of_nonneg_left T1 (show (0 : Rat) ≤ dl by decide +kernel)
    grind
  have e1 := Rat.mul_le_mul_of_nonneg_right hx (Rat.le_of_lt T0)
  have e2 := Rat.mul_le_mul_of_nonneg_right hy (Rat.le_of_lt T0)
  have e3 := Rat.mul_le_mul_of_nonneg_right hz (Rat.le_of_lt T0)
  constructor
  · apply Rat.le_of_mul_le_mul_right _ T0
    rcases hm with h | h | h <;> rw [h] <;> grind
  · apply Rat.le_of_mul_le_mul_right _ T0
    rcases h0 with h | h | h <;> subst h <;> grind
theorem gapR {mx mn v : UInt64} {T M D F c : Rat} (T1 : 1 ≤ T) (T2 : T ≤ 60) (fx : Fin mx) (fn : Fin mn) (fv : Fin v) (D1 : 1 / 32 ≤ D) (D2 : D ≤ 1) (M0 : 0 ≤ M ∧ M ≤ 1)
    (x1 : rv mx ≤ M + dl) (x2 : M ≤ rv mx + dl) (n1 : rv mn ≤ M - D + dl) (n2 : M - D ≤ rv mn + dl) (hc : c * T = F) (c0 : 0 ≤ c) (c1 : c ≤ 1) (v1 : rv v * T ≤ M * T - D * F + dl) (v2 : M * T - D * F ≤ rv v * T + dl) : Ap (rgbC mx mn v) c (170 * dl) := by
  have he : e0 = 1 / 2199023255552 := rfl
  have T0 : (0 : Rat) < T := by grind
  have hd : dl ≤ dl * T := by
    have := Rat.mul_le_mul_of_nonneg_left T1 (show (0 : Rat) ≤ dl by decide +kernel)
    grind
  have hDF : D * F = D * c * T := by rw [← hc]; grind
  have w1 : rv v ≤ M - D * c + dl := by apply Rat.le_of_mul_le_mul_right _ T0; grind
  have w2 : M - D * c ≤ rv v + dl := by apply Rat.le_of_mul_le_mul_right _ T0; grind
  have k1 := mulB (a := D) (A := 1) (b := c) (B := 1) ⟨by grind, by grind⟩ ⟨by grind, by grind⟩
  have hN := subR fx fv ⟨by grind, by grind⟩
  have hD := subR fx fn ⟨by grind, by grind⟩
  unfold rgbC
  generalize sub mx v = n at *
  generalize sub mx mn = d at *
  obtain ⟨f1, s1, s2⟩ := hN
  obtain ⟨f2, d1, d2⟩ := hD
  have k2 := mulB (a := rv d - D) (A := 3 * dl) (b := c) (B := 1) ⟨by grind, by grind⟩ ⟨by grind, by grind⟩
  exact (divNear (w := 1 / 33) (q := 169 * dl) f1 f2 (by decide +kernel) (by grind) (by grind) (by grind) ⟨by grind, by grind⟩ ⟨by grind, by grind⟩).mono (by grind)
theorem rgbK_near {mx mn r g b : UInt64} {T M D F0 F2 F4 : Rat} (T1 : 1 ≤ T) (T2 : T ≤ 60) (fx : Fin mx) (fn : Fin mn) (fr : Fin r) (fg : Fin g) (fb : Fin b) (D1 : 1 / 32 ≤ D) (D2 : D ≤ 1) (M0 : 0 ≤ M ∧ M ≤ 1)
    (x1 : rv mx ≤ M + dl) (x2 : M ≤ rv mx + dl) (n1 : rv mn ≤ M - D + dl) (n2 : M - D ≤ rv mn + dl) (hx : mx = r ∨ mx = g ∨ mx = b)
    (r0 : 0 ≤ F0 ∧ F0 ≤ T) (g0 : 0 ≤ F2 ∧ F2 ≤ T) (b0 : 0 ≤ F4 ∧ F4 ≤ T)
    (v1 : rv r * T ≤ M * T - D * F0 + dl) (v2 : M * T - D * F0 ≤ rv r * T + dl) (v3 : rv g * T ≤ M * T - D * F2 + dl) (v4 : M * T - D * F2 ≤ rv g * T + dl) (v5 : rv b * T ≤ M * T - D * F4 + dl) (v6 : M * T - D * F4 ≤ rv b * T + dl) :
    ∃ X : Rat, Ap (rgbK mx mn r g b) X (350 * dl) ∧ -3 ≤ X ∧ X ≤ 7 ∧ ((X * T = F4 - F2 ∧ F0 < 1) ∨ (X * T = 2 * T + F0 - F4 ∧ F2 < 1) ∨ (X * T = 4 * T + F2 - F0 ∧ F4 < 1)) := by
  have he : e0 = 1 / 2199023255552 := rfl
  have T0 : (0 : Rat) < T := by grind
  have hd : dl ≤ dl * T := by
    have := Rat.mul_le_mul_of_nonneg_left T1 (show (0 : Rat) ≤ dl by decide +kernel)
    grind
  have hc : ∀ F, 0 ≤ F ∧ F ≤ T → (F / T) * T = F ∧ 0 ≤ F / T ∧ F / T ≤ 1 := by
    intro F hF
    have h1 : F / T * T = F := Rat.div_mul_cancel (Rat.ne_of_gt T0)
    refine ⟨h1, ?_, ?_⟩
    · apply Rat.le_of_mul_le_mul_right _ T0; grind
    · apply Rat.le_of_mul_le_mul_right _ T0; grind
  obtain ⟨p1, p2, p3⟩ := hc F0 r0
  obtain ⟨p4, p5, p6⟩ := hc F2 g0
  obtain ⟨p7, p8, p9⟩ := hc F4 b0
  have hr := gapR T1 T2 fx fn fr D1 D2 M0 x1 x2 n1 n2 p1 p2 p3 v1 v2
  have hg := gapR T1 T2 fx fn fg D1 D2 M0 x1 x2 n1 n2 p4 p5 p6 v3 v4
  have hb := gapR T1 T2 fx fn fb D1 D2 M0 x1 x2 n1 n2 p7 p8 p9 v5 v6
  generalize F0 / T = c0 at *
  generalize F2 / T = c2' at *
  generalize F4 / T = c4' at *
  -- the greatest has no fall
  have small : ∀ F, 0 ≤ F → M * T - D * F + dl ≥ rv mx * T → F < 1 := by
    intro F hF h
    have x3 := Rat.mul_le_mul_of_nonneg_right x2 (Rat.le_of_lt T0)
    have h2 : D * F ≤ 61 * dl := by grind
    have h3 := Rat.mul_le_mul_of_nonneg_right D1 hF
    grind
  unfold rgbK
  generalize rgbC mx mn r = rr at *
  generalize rgbC mx mn g = gg at *
  generalize rgbC mx mn b = bb at *
  obtain ⟨f1, r1, r2⟩ := hr
  obtain ⟨f2, g1, g2⟩ := hg
  obtain ⟨f3, b1, b2⟩ := hb
  by_cases k1 : eqF r mx = true
  · rw [if_pos k1]
    have e1 := (eq_iff fr fx).mp k1
    have hs := subR f3 f2 ⟨by grind, by grind⟩
    obtain ⟨fs, s1, s2⟩ := hs
    refine ⟨c4' - c2', ⟨fs, by grind, by grind⟩, by grind, by grind, .inl ⟨by grind, small F0 r0.1 (by rw [← e1]; exact v1)⟩⟩
  · rw [if_neg k1]
    by_cases k2 : eqF g mx = true
    · rw [if_pos k2]
      have e1 := (eq_iff fg fx).mp k2
      have ha := addR c2.1 f1 (by rw [c2.2]; constructor <;> grind)
      rw [c2.2] at ha
      generalize add 4611686018427387904 rr = u at *
      obtain ⟨fu, u1, u2⟩ := ha
      have hs := subR fu f3 ⟨by grind, by grind⟩
      obtain ⟨fs, s1, s2⟩ := hs
      refine ⟨2 + c0 - c4', ⟨fs, by grind, by grind⟩, by grind, by grind, .inr (.inl ⟨by grind, small F2 g0.1 (by rw [← e1]; exact v3)⟩)⟩
    · rw [if_neg k2]
      have hxb : mx = b := by
        rcases hx with h | h | h
        · exact absurd ((eq_iff fr fx).mpr (by rw [h])) k1
        · exact absurd ((eq_iff fg fx).mpr (by rw [h])) k2
        · exact h
      have ha := addR c4.1 f2 (by rw [c4.2]; constructor <;> grind)
      rw [c4.2] at ha
      generalize add 4616189618054758400 gg = u at *
      obtain ⟨fu, u1, u2⟩ := ha
      have hs := subR fu f1 ⟨by grind, by grind⟩
      obtain ⟨fs, s1, s2⟩ := hs
      refine ⟨4 + c2' - c0, ⟨fs, by grind, by grind⟩, by grind, by grind, .inr (.inr ⟨by grind, small F4 b0.1 (by rw [hxb]; exact v5)⟩)⟩
end Mine
end
section -- FlP
open PySem PySem.Float64
namespace Mine
/-- the hue, read -/
theorem hue_read {k : UInt64} {X : Rat} {p t n : Int} (t1 : 1 ≤ t) (t2 : t ≤ 60) (hk : Ap k X (350 * dl)) (x1 : -3 ≤ X) (x2 : X ≤ 7) (hX : X * (t : Rat) = 6 * ((p - t * n : Int) : Rat)) :
    ∃ Y : Int, 0 ≤ Y ∧ Y ≤ t ∧ (∃ m, Y = p - t * m) ∧ Ap (Float64.mul (Float64.divmod (Float64.div k 4618441417868443648) 4607182418800017408).snd (Float64.ofInt t)) (Y : Rat) (4000 * dl) := by
  have he : e0 = 1 / 2199023255552 := rfl
  have T1 : (1 : Rat) ≤ (t : Rat) := by exact_mod_cast Rat.intCast_le_intCast.mpr t1
  have T2 : (t : Rat) ≤ 60 := by exact_mod_cast Rat.intCast_le_intCast.mpr t2
  have T0 : (0 : Rat) < (t : Rat) := by grind
  obtain ⟨fk, k1, k2⟩ := hk
  have h6 : rv k / 6 * 6 = rv k := Rat.div_mul_cancel (by decide +kernel)
  have hd := divR fk c6.1 (by rw [c6.2]; decide +kernel) (by rw [c6.2]; constructor <;> grind)
  rw [c6.2] at hd
  generalize Float64.div k 4618441417868443648 = h at *
  obtain ⟨fh, d1, d2⟩ := hd
  obtain ⟨m, ⟨fy, y1, y2⟩, y3, y4⟩ := modR fh
  generalize (divmod h 4607182418800017408).snd = y at *
  have hYr : ((p - t * n - t * m : Int) : Rat) = (X / 6 - (m : Rat)) * (t : Rat) := by
    have h6X : X / 6 * 6 = X := Rat.div_mul_cancel (by decide +kernel)
    push_cast at hX ⊢; grind
  generalize hYd : p - t * n - t * m = Y at *
  have q1 := mulB (a := rv y - (X / 6 - (m : Rat))) (A := 61 * dl) (b := (t : Rat)) (B := 60) ⟨by grind, by grind⟩ ⟨by grind, by grind⟩
  have q2 := Rat.mul_le_mul_of_nonneg_right y3 (Rat.le_of_lt T0)
  have q3 := Rat.mul_le_mul_of_nonneg_right y4 (Rat.le_of_lt T0)
  have Y1 : (-1 : Rat) < (Y : Rat) := by grind
  have Y2 : (Y : Rat) < (t : Rat) + 1 := by grind
  have Y3 : -1 < Y := Rat.intCast_lt_intCast.mp (by rw [show ((-1 : Int) : Rat) = -1 by decide +kernel]; exact Y1)
  have Y4 : Y < t + 1 := by exact_mod_cast Y2
  have it := intR t (by omega)
  generalize ofInt t = b at *
  obtain ⟨fb, b1, b2⟩ := it
  have p2 := mulB (a := rv y) (A := 2) (b := rv b) (B := 60 + e0) ⟨by grind, by grind⟩ ⟨by grind, by grind⟩
  have p3 := mulB (a := rv y) (A := 2) (b := rv b - (t : Rat)) (B := e0) ⟨by grind, by grind⟩ ⟨by grind, by grind⟩
  obtain ⟨fm, m1, m2⟩ := mulR fy fb ⟨by grind, by grind⟩
  exact ⟨Y, by omega, by omega, ⟨n + m, by rw [← hYd]; grind⟩, fm, by grind, by grind⟩
/-- the lightness and the saturation, read -/
theorem ls_read {mx mn : UInt64} {lt K sh : Int} (h1 : 1 ≤ sh) (h2 : sh ≤ 8) (h3 : 1 ≤ lt) (h4 : lt ≤ 7) (hK : K = sh * min lt (8 - lt)) (fx : Fin mx) (fn : Fin mn)
    (x1 : rv mx ≤ (8 * (lt : Rat) + (K : Rat)) / 64 + dl) (x2 : (8 * (lt : Rat) + (K : Rat)) / 64 ≤ rv mx + dl) (n1 : rv mn ≤ (8 * (lt : Rat) - (K : Rat)) / 64 + dl) (n2 : (8 * (lt : Rat) - (K : Rat)) / 64 ≤ rv mn + dl) :
    nearB (Float64.mul (rgbL mx mn) (Float64.ofInt 8)) lt = true ∧ nearB (Float64.mul (rgbS mx mn) (Float64.ofInt 8)) sh = true ∧
    Float64.isZero (Float64.add mx mn) = false ∧ Float64.isZero (Float64.sub (Float64.sub 4611686018427387904 mx) mn) = false ∧ Float64.isZero (Float64.sub mx mn) = false ∧ eqF mn mx = false := by
  have he : e0 = 1 / 2199023255552 := rfl
  have r1 : (1 : Rat) ≤ (sh : Rat) := by exact_mod_cast Rat.intCast_le_intCast.mpr h1
  have r2 : (sh : Rat) ≤ 8 := by exact_mod_cast Rat.intCast_le_intCast.mpr h2
  have r3 : (1 : Rat) ≤ (lt : Rat) := by exact_mod_cast Rat.intCast_le_intCast.mpr h3
  have r4 : (lt : Rat) ≤ 7 := by exact_mod_cast Rat.intCast_le_intCast.mpr h4
  have hKb : 1 ≤ K ∧ K ≤ 32 := by
    have hm0 : 1 ≤ min lt (8 - lt) ∧ min lt (8 - lt) ≤ 4 := by omega
    rw [hK]
    generalize min lt (8 - lt) = q at *
    have := Int.mul_le_mul h1 hm0.1 (by decide) (by omega)
    have := Int.mul_le_mul h2 hm0.2 (by omega) (by omega)
    omega
  have K1 : (1 : Rat) ≤ (K : Rat) := by exact_mod_cast Rat.intCast_le_intCast.mpr hKb.1
  have K2 : (K : Rat) ≤ 32 := by exact_mod_cast Rat.intCast_le_intCast.mpr hKb.2
  have ha := addR fx fn ⟨by grind, by grind⟩
  have hs := subR fx fn ⟨by grind, by grind⟩
  have ht := subR c2.1 fx (by rw [c2.2]; constructor <;> grind)
  rw [c2.2] at ht
  have hq : eqF mn mx = false := by
    cases h : eqF mn mx
    · rfl
    · have := (eq_iff fn fx).mp h
      grind
  rw [hq]
  unfold rgbS rgbL
  generalize add mx mn = a at *
  generalize sub mx mn = d at *
  generalize sub 4611686018427387904 mx = u at *
  obtain ⟨fa, a1, a2⟩ := ha
  obtain ⟨fd, d1, d2⟩ := hs
  obtain ⟨fu, u1, u2⟩ := ht
  have hv := subR fu fn ⟨by grind, by grind⟩
  generalize sub u mn = v at *
  obtain ⟨fv, v1, v2⟩ := hv
  have nz : ∀ x, Fin x → 0 < rv x → isZero x = false := by
    intro x hx hp
    cases h : isZero x
    · rfl
    · have := (isZero_iff hx).mp h
      grind
  have h2d : rv a / 2 * 2 = rv a := Rat.div_mul_cancel (by decide +kernel)
  have hl := divR fa c2.1 (by rw [c2.2]; decide +kernel) (by rw [c2.2]; constructor <;> grind)
  rw [c2.2] at hl
  generalize div a 4611686018427387904 = l at *
  obtain ⟨fl, l1, l2⟩ := hl
  have i8 := intR 8 (by decide)
  have e8 : ((8 : Int) : Rat) = 8 := rfl
  rw [e8] at i8
  have times8 : ∀ (x : UInt64) (c : Int), Ap x ((c : Rat) / 8) (300 * dl) → 1 ≤ (c : Rat) → (c : Rat) ≤ 8 → Ap (Float64.mul x (Float64.ofInt 8)) (c : Rat) (3000 * dl) := by
    intro x c hx c1 c2
    obtain ⟨fx, x1, x2⟩ := hx
    generalize ofInt 8 = b at *
    obtain ⟨fb, b1, b2⟩ := i8
    have p2 := mulB (a := rv x) (A := 2) (b := rv b) (B := 8 + e0) ⟨by grind, by grind⟩ ⟨by grind, by grind⟩
    have p3 := mulB (a := rv x) (A := 2) (b := rv b - 8) (B := e0) ⟨by grind, by grind⟩ ⟨by grind, by grind⟩
    obtain ⟨fm, m1, m2⟩ := mulR fx fb ⟨by grind, by grind⟩
    exact ⟨fm, by grind, by grind⟩
  have hle : (leB l 4602678819172646912 = true) ↔ rv l ≤ 1 / 2 := by
    unfold leB
    rw [Bool.or_eq_true, lt_iff fl ch.1, eq_iff fl ch.1, ch.2]
    constructor
    · rintro (h | h)
      · exact Rat.le_of_lt h
      · rw [h]; exact Rat.le_refl
    · intro h; exact (Rat.le_iff_lt_or_eq).mp h
  have q0 : 3000 * dl ≤ 1 / 2048 := by decide +kernel
  refine ⟨nearN (times8 l lt ⟨fl, by grind, by grind⟩ (by grind) (by grind)) q0 (by omega) (by omega), ?_, nz a fa (by grind), nz v fv (by grind), nz d fd (by grind), rfl⟩
  refine nearN (times8 _ sh ?_ (by grind) (by grind)) q0 (by omega) (by omega)
  by_cases hc : leB l 4602678819172646912 = true
  · rw [if_pos hc]
    have hc2 := hle.mp hc
    have j1 : (lt : Rat) < 5 := by grind
    have j2 : lt < 5 := by exact_mod_cast j1
    have hmin : min lt (8 - lt) = lt := by omega
    rw [hmin] at hK
    have hKr : (K : Rat) = (sh : Rat) * (lt : Rat) := by rw [hK, Rat.intCast_mul]
    have w := mulB (a := rv a - (lt : Rat) / 4) (A := 3 * dl) (b := (sh : Rat) / 8) (B := 1) ⟨by grind, by grind⟩ ⟨by grind, by grind⟩
    exact (divNear (w := 1 / 5) (q := 40 * dl) fd fa (by decide +kernel) (by grind) (by grind) (by grind) ⟨by grind, by grind⟩ ⟨by grind, by grind⟩).mono (by grind)
  · rw [if_neg hc]
    have hc2 : ¬ rv l ≤ 1 / 2 := fun h => hc (hle.mpr h)
    have j1 : 3 < (lt : Rat) := by grind
    have j2 : 3 < lt := by exact_mod_cast j1
    have hmin : min lt (8 - lt) = 8 - lt := by omega
    rw [hmin] at hK
    have hKr : (K : Rat) = (sh : Rat) * (8 - (lt : Rat)) := by rw [hK]; push_cast; rfl
    have w := mulB (a := rv v - (2 - (lt : Rat) / 4)) (A := 4 * dl) (b := (sh : Rat) / 8) (B := 1) ⟨by grind, by grind⟩ ⟨by grind, by grind⟩
    exact (divNear (w := 1 / 5) (q := 40 * dl) fd fv (by decide +kernel) (by grind) (by grind) (by grind) ⟨by grind, by grind⟩ ⟨by grind, by grind⟩).mono (by grind)
end Mine
end
section -- FlQ
open PySem PySem.Float64
namespace Mine
theorem part_T {v : UInt64} {t lt K F : Int} (h : PartOk v t (8 * lt * t + K * (t - 2 * F))) :
    rv v * (t : Rat) ≤ (8 * (lt : Rat) + (K : Rat)) / 64 * (t : Rat) - (K : Rat) / 32 * (F : Rat) + dl ∧ (8 * (lt : Rat) + (K : Rat)) / 64 * (t : Rat) - (K : Rat) / 32 * (F : Rat) ≤ rv v * (t : Rat) + dl := by
  have he : e0 = 1 / 2199023255552 := rfl
  obtain ⟨_, h1, h2⟩ := h
  push_cast at h1 h2
  constructor <;> grind
theorem read_ok {p t sh lt : Int} (h1 : 1 ≤ sh) (h2 : sh ≤ 8) (h3 : 1 ≤ lt) (h4 : lt ≤ 7) (t1 : 1 ≤ t) (t2 : t ≤ 60) (p1 : -50 ≤ p) (p2 : p ≤ 49 + t) (p3 : p < 128) : ReadOk (hlsX p t sh lt) (hlsY p t sh lt) (hlsZ p t sh lt) p t sh lt := by
  have he : e0 = 1 / 2199023255552 := rfl
  obtain ⟨⟨x1, x2, x3⟩, ⟨y1, y2, y3⟩, ⟨z1, z2, z3⟩⟩ := hls_all (p := p) h1 h2 h3 h4 t1 t2 (by omega) (by omega)
  have T1 : (1 : Rat) ≤ (t : Rat) := by exact_mod_cast Rat.intCast_le_intCast.mpr t1
  have T2 : (t : Rat) ≤ 60 := by exact_mod_cast Rat.intCast_le_intCast.mpr t2
  have r3 : (1 : Rat) ≤ (lt : Rat) := by exact_mod_cast Rat.intCast_le_intCast.mpr h3
  have r4 : (lt : Rat) ≤ 7 := by exact_mod_cast Rat.intCast_le_intCast.mpr h4
  have hF := falls_of (p := p) t1
  have hdue : ∀ c, hlsDue p t sh lt c = 8 * lt * t + sh * min lt (8 - lt) * (t - 2 * fallI p t c) := fun _ => rfl
  rw [hdue] at x1 y1 z1
  clear hdue x2 x3 y2 y3 z2 z3
  generalize fallI p t 0 = F0 at *
  generalize fallI p t 2 = F2 at *
  generalize fallI p t 4 = F4 at *
  generalize hlsX p t sh lt = r at *
  generalize hlsY p t sh lt = g at *
  generalize hlsZ p t sh lt = b at *
  generalize hK : sh * min lt (8 - lt) = K at *
  have hKb : 1 ≤ K ∧ K ≤ 32 ∧ K ≤ 8 * lt ∧ K ≤ 64 - 8 * lt := by
    have hm0 : 1 ≤ min lt (8 - lt) ∧ min lt (8 - lt) ≤ 4 ∧ min lt (8 - lt) ≤ lt ∧ min lt (8 - lt) ≤ 8 - lt := by omega
    rw [← hK]
    generalize min lt (8 - lt) = q at *
    have := Int.mul_le_mul h1 hm0.1 (by decide) (by omega)
    have := Int.mul_le_mul h2 hm0.2.1 (by omega) (by omega)
    have := Int.mul_le_mul h2 hm0.2.2.1 (by omega) (by omega)
    have := Int.mul_le_mul h2 hm0.2.2.2 (by omega) (by omega)
    omega
  have K1 : (1 : Rat) ≤ (K : Rat) := by exact_mod_cast Rat.intCast_le_intCast.mpr hKb.1
  have K2 : (K : Rat) ≤ 32 := by exact_mod_cast Rat.intCast_le_intCast.mpr hKb.2.1
  have K3 : (K : Rat) ≤ 8 * (lt : Rat) := by exact_mod_cast Rat.intCast_le_intCast.mpr hKb.2.2.1
  have K4 : (K : Rat) ≤ 64 - 8 * (lt : Rat) := by exact_mod_cast Rat.intCast_le_intCast.mpr hKb.2.2.2
  have xr := part_T x1
  have yr := part_T y1
  have zr := part_T z1
  have fr := x1.1
  have fg := y1.1
  have fb := z1.1
  obtain ⟨fx, m1, m2, m3, m4⟩ := max3R fr fg fb
  obtain ⟨fn, n1, n2, n3, n4⟩ := min3R fr fg fb
  have hreads : ∀ mx mn, max3F r g b = mx → min3F r g b = mn →
      rdH r g b = rgbH mx mn r g b ∧ rdL r g b = rgbL mx mn ∧ rdS r g b = rgbS mx mn := by
    intro mx mn e1 e2; subst e1 e2; exact ⟨rfl, rfl, rfl⟩
  obtain ⟨e1, e2, e3⟩ := hreads _ _ rfl rfl
  have cF : ∀ F : Int, 0 ≤ F ∧ F ≤ t → (0 : Rat) ≤ (F : Rat) ∧ (F : Rat) ≤ (t : Rat) := fun F h =>
    ⟨by exact_mod_cast Rat.intCast_le_intCast.mpr h.1, by exact_mod_cast Rat.intCast_le_intCast.mpr h.2⟩
  have F0r := cF F0 hF.ra
  have F2r := cF F2 hF.rb
  have F4r := cF F4 hF.rc
  have top : (F0 : Rat) = 0 ∨ (F2 : Rat) = 0 ∨ (F4 : Rat) = 0 := by
    rcases hF.top with h | h | h
    · exact .inl (by rw [h]; rfl)
    · exact .inr (.inl (by rw [h]; rfl))
    · exact .inr (.inr (by rw [h]; rfl))
  have bot : (t : Rat) - (F0 : Rat) = 0 ∨ (t : Rat) - (F2 : Rat) = 0 ∨ (t : Rat) - (F4 : Rat) = 0 := by
    rcases hF.bot with h | h | h
    · exact .inl (by rw [h]; grind)
    · exact .inr (.inl (by rw [h]; grind))
    · exact .inr (.inr (by rw [h]; grind))
  have hmx := extR (m := rv (max3F r g b)) T1 (by rcases m4 with h | h | h <;> rw [h] <;> simp) m1 m2 m3 (show (0 : Rat) ≤ (K : Rat) / 32 by grind) F0r.1 F2r.1 F4r.1 top xr.1 xr.2 yr.1 yr.2 zr.1 zr.2
  have hmn := extR (m := - rv (min3F r g b)) (x := - rv r) (y := - rv g) (z := - rv b) (T := (t : Rat)) (M := -((8 * (lt : Rat) - (K : Rat)) / 64)) (D := (K : Rat) / 32) (a := (t : Rat) - (F0 : Rat)) (b := (t : Rat) - (F2 : Rat)) (c := (t : Rat) - (F4 : Rat)) T1 (by rcases n4 with h | h | h <;> rw [h] <;> simp) (by grind) (by grind) (by grind) (by grind) (by grind) (by grind) (by grind) bot
    (by grind) (by grind) (by grind) (by grind) (by grind) (by grind)
  generalize hmxd : max3F r g b = mx at *
  generalize hmnd : min3F r g b = mn at *
  obtain ⟨L1, L2, L3, L4, L5, L6⟩ := ls_read h1 h2 h3 h4 hK.symm fx fn hmx.1 hmx.2 (by grind) (by grind)
  obtain ⟨X, kX, X1, X2, hX⟩ := rgbK_near (M := (8 * (lt : Rat) + (K : Rat)) / 64) (D := (K : Rat) / 32) T1 T2 fx fn fr fg fb (by grind) (by grind) ⟨by grind, by grind⟩ hmx.1 hmx.2 (by grind) (by grind) m4 F0r F2r F4r xr.1 xr.2 yr.1 yr.2 zr.1 zr.2
  have hXn : ∃ n : Int, X * (t : Rat) = 6 * ((p - t * n : Int) : Rat) := by
    have i0 : ∀ F : Int, 0 ≤ F → (F : Rat) < 1 → F = 0 := by
      intro F h h'
      have : F < 1 := by exact_mod_cast h'
      omega
    rcases hX with ⟨e, h⟩ | ⟨e, h⟩ | ⟨e, h⟩
    · obtain ⟨n, hn⟩ := hF.pa (i0 _ hF.ra.1 h)
      refine ⟨n, ?_⟩
      rw [e]
      have := congrArg (Int.cast (R := Rat)) hn
      push_cast at this ⊢; exact this
    · obtain ⟨n, hn⟩ := hF.pb (i0 _ hF.rb.1 h)
      refine ⟨n, ?_⟩
      rw [e]
      have := congrArg (Int.cast (R := Rat)) hn
      push_cast at this ⊢; exact this
    · obtain ⟨n, hn⟩ := hF.pc (i0 _ hF.rc.1 h)
      refine ⟨n, ?_⟩
      rw [e]
      have := congrArg (Int.cast (R := Rat)) hn
      push_cast at this ⊢; exact this
  obtain ⟨n, hXn⟩ := hXn
  obtain ⟨Y, Y0, Yt, ⟨m, hY⟩, hz⟩ := hue_read t1 t2 kX X1 X2 hXn
  have hH : rgbH mx mn r g b = (Float64.divmod (Float64.div (rgbK mx mn r g b) 4618441417868443648) 4607182418800017408).snd := rfl
  have hp : p % t = if Y = t then 0 else Y := by
    have : p = Y + t * m := by omega
    rw [this, Int.add_mul_emod_self_left]
    split
    · rename_i h; rw [h, Int.emod_self]
    · exact Int.emod_eq_of_lt (by omega) (by omega)
  have q0 : 4000 * dl ≤ 1 / 2048 := by decide +kernel
  have hnear : nearB (Float64.mul (rdH r g b) (Float64.ofInt t)) Y = true := by
    rw [e1, hH]; exact nearN hz q0 (by omega) (by omega)
  have Yr0 : (0 : Rat) ≤ (Y : Rat) := by exact_mod_cast Rat.intCast_le_intCast.mpr Y0
  have Yr1 : (Y : Rat) ≤ (t : Rat) := by exact_mod_cast Rat.intCast_le_intCast.mpr Yt
  have hw : isFinite (Float64.add (Float64.mul (rdH r g b) (Float64.ofInt t)) 4602678819172646912) = true ∧ Flt.toInt truncOf (Float64.add (Float64.mul (rdH r g b) (Float64.ofInt t)) 4602678819172646912) = Y := by
    rw [e1, hH]
    generalize Float64.mul (divmod (div (rgbK mx mn r g b) 4618441417868443648) 4607182418800017408).snd (ofInt t) = z at *
    obtain ⟨fz, z1', z2'⟩ := hz
    have ha := addR fz ch.1 (by rw [ch.2]; constructor <;> grind)
    rw [ch.2] at ha
    generalize Float64.add z 4602678819172646912 = w at *
    obtain ⟨fw, w1, w2⟩ := ha
    obtain ⟨i1, i2⟩ := truncR fw (by grind)
    generalize Flt.toInt truncOf w = i at *
    have k1 : (i : Rat) < (Y : Rat) + 1 := by grind
    have k2 : (Y : Rat) < (i : Rat) + 1 := by grind
    have k3 : i < Y + 1 := by exact_mod_cast k1
    have k4 : Y < i + 1 := by exact_mod_cast k2
    exact ⟨fin_isFinite fw, by omega⟩
  refine ⟨by rw [hmxd, hmnd]; exact ⟨L6, L5, L3, L4⟩, by omega, by omega, ?_, ?_, hw.1, ?_, ?_⟩
  · rw [e2]; exact L1
  · rw [e3]; exact L2
  · rw [hw.2, Int.fmod_eq_emod_of_nonneg _ (by omega), hp]
    split
    · rename_i h; rw [h, Int.emod_self]
    · exact Int.emod_eq_of_lt (by omega) (by omega)
  · rw [hp]
    split
    · rename_i h; right; rw [show 0 + t = Y by omega]; exact hnear
    · left; exact hnear
end Mine
end
section -- FlR
open PySem PySem.Float64
namespace Mine
/-- the arm of a place -/
def armP (p t : Int) : Int := (p % t) * 6 / t
theorem arm_hsv {p t sh lv : Int} (h1 : 1 ≤ sh) (h2 : sh ≤ 8) (h3 : 1 ≤ lv) (h4 : lv ≤ 8) (t1 : 1 ≤ t) (t2 : t ≤ 60) (p1 : -50 ≤ p) (p2 : p ≤ 49 + t) :
    armFin (hsvR (divI (p + 50 * t) t) (divI sh 8) (divI lv 8)) ∧ armFin (hsvG (divI (p + 50 * t) t) (divI sh 8) (divI lv 8)) ∧ armFin (hsvB (divI (p + 50 * t) t) (divI sh 8) (divI lv 8)) ∧
    armP p t = armI (armX (hsvR (divI (p + 50 * t) t) (divI sh 8) (divI lv 8))) (armX (hsvG (divI (p + 50 * t) t) (divI sh 8) (divI lv 8))) (armX (hsvB (divI (p + 50 * t) t) (divI sh 8) (divI lv 8))) := by
  obtain ⟨_, _, x, y, z⟩ := hsv_all h1 h2 h3 h4 t1 t2 p1 p2
  obtain ⟨k, A, n, h, h0, h5, hk0, hk1, hke⟩ := place_parts (p := p) t1
  refine ⟨(armR x t1 t2).1, (armR y t1 t2).1, (armR z t1 t2).1, ?_⟩
  rw [arm_of (dec_hsv (lv := lv) h1 h3) t1 t2 h h0 h5 ⟨hk0, hk1⟩ x y z, hke, Int.mul_emod_mul_of_pos _ _ (by decide), armP, Int.mul_comm]
theorem arm_hls {p t sh lt : Int} (h1 : 1 ≤ sh) (h2 : sh ≤ 8) (h3 : 1 ≤ lt) (h4 : lt ≤ 7) (t1 : 1 ≤ t) (t2 : t ≤ 60) (p1 : -200 ≤ p) (p2 : p ≤ 200) :
    armFin (hlsX p t sh lt) ∧ armFin (hlsY p t sh lt) ∧ armFin (hlsZ p t sh lt) ∧ armP p t = armI (armX (hlsX p t sh lt)) (armX (hlsY p t sh lt)) (armX (hlsZ p t sh lt)) := by
  obtain ⟨x, y, z⟩ := hls_all h1 h2 h3 h4 t1 t2 p1 p2
  obtain ⟨k, A, n, h, h0, h5, hk0, hk1, hke⟩ := place_parts (p := p) t1
  refine ⟨(armR x t1 t2).1, (armR y t1 t2).1, (armR z t1 t2).1, ?_⟩
  have hK : 1 ≤ sh * min lt (8 - lt) := by
    have hm0 : 1 ≤ min lt (8 - lt) := by omega
    have := Int.mul_le_mul h1 hm0 (by decide) (by omega)
    omega
  rw [arm_of (dec_hls (lt := lt) hK) t1 t2 h h0 h5 ⟨hk0, hk1⟩ x y z, hke, Int.mul_emod_mul_of_pos _ _ (by decide), armP, Int.mul_comm]
end Mine
end
section -- Kcomp
open PySem PySem.W PySem.Calls PyProof.Rows
namespace Mine
/-- a comprehension's turns by an invariant; the ledger may grow -/
theorem compInv {prog : Program} {w : World} {A : Around} {h₀ : Heap} {L : Addr} {m : Str → Option Value} {env : Env} {elt : Expr} {x : Str} {scope : Scope} {cl : List (Str × Addr)} {s : Shared} {S : List (Addr × Obj) → Prop} {P : Nat → Value → Prop} {Fin : List Value → List (Addr × Obj) → Prop} {news : List (Addr × Obj)} {n : Nat}
    (Inv : Nat → List Value → List (Addr × Obj) → Prop) (start : Inv 0 [] news)
    (turn : ∀ i ys nw v I oI C oC D m₂ h tk (E' : Value → Shared → Prop), i < n → Inv i ys nw → P i v → LCg.NsObj oC m₂ → m₂ x = some v → Fr h₀ L h m → News h₀ L h ((I, oI) :: (C, oC) :: (D, LCg.lst ys) :: nw) → LCg.Off3 I C D nw → ((@Ne Nat I C) ∧ (@Ne Nat I D) ∧ (@Ne Nat C D)) →
      wpAny (model prog w) A (eval elt (compEnvC scope cl C env)) (LCg.CompEnd h₀ L m { s with heap := h, toks := tk } I oI C oC D (LCg.lst ys) S (fun y nw' => Inv (i + 1) (ys ++ [y]) nw')) E' { s with heap := h, toks := tk })
    (fin : ∀ ys nw, Inv n ys nw → Fin ys nw) : LCg.CompRest prog w A h₀ L m env elt x scope cl s S P Fin n 0 [] news := by
  have key : ∀ (j i : Nat) (ys : List Value) (nw : List (Addr × Obj)), i + j = n → Inv i ys nw → LCg.CompRest prog w A h₀ L m env elt x scope cl s S P Fin j i ys nw := by
    intro j
    induction j with
    | zero =>
      intro i ys nw hi hy
      have e : i = n := by omega
      subst e
      exact LCg.CompRest.zero (fin ys nw hy)
    | succ j ih =>
      intro i ys nw hi hy
      refine LCg.CompRest.succ ?_
      intro v I oI C oC D m₂ h tk E' hv hC hx F N off ne
      refine wpAny_mono (turn i ys nw v I oI C oC D m₂ h tk E' (by omega) hy hv hC hx F N off ne) (fun y s₂ hq => ?_) fun _ _ e => e
      obtain ⟨h', tk', nw', e, F', N', off', hS, hn⟩ := hq
      exact ⟨h', tk', nw', e, F', N', off', hS, ih (i + 1) _ _ (by omega) hn⟩
  exact key n 0 [] news (by omega) start
end Mine
end
section -- Karms
theorem Mine.wTopOff27 : True := by w_top off; trivial
local macro_rules | `(tactic| walk_at "no such line") => `(tactic| fail)
local macro_rules | `(tactic| walk_at "no such line") => `(tactic| fail)
local macro_rules | `(tactic| walk_at "no such line") => `(tactic| fail)
local macro_rules | `(tactic| walk_at "no such line") => `(tactic| fail)
local macro_rules | `(tactic| walk_at "no such line") => `(tactic| fail)
local macro_rules | `(tactic| walk_at "no such line") => `(tactic| fail)
local macro_rules | `(tactic| walk_at "no such line") => `(tactic| fail)
local macro_rules | `(tactic| walk_at "no such line") => `(tactic| fail)
local macro_rules | `(tactic| walk_at "no such line") => `(tactic| fail)
local macro_rules | `(tactic| walk_at "no such line") => `(tactic| fail)
local macro_rules | `(tactic| walk_at "no such line") => `(tactic| fail)
local macro_rules | `(tactic| walk_at "no such line") => `(tactic| fail)
local macro_rules | `(tactic| walk_at "no such line") => `(tactic| fail)
local macro_rules | `(tactic| walk_at "no such line") => `(tactic| fail)
local macro_rules | `(tactic| walk_at "no such line") => `(tactic| fail)
local macro_rules | `(tactic| walk_at "no such line") => `(tactic| fail)
local macro_rules | `(tactic| walk_at "no such line") => `(tactic| fail)
local macro_rules | `(tactic| walk_at "no such line") => `(tactic| fail)
local macro_rules | `(tactic| walk_at "no such line") => `(tactic| fail)
local macro_rules | `(tactic| walk_at "no such line") => `(tactic| fail)
local macro_rules | `(tactic| walk_at "no such line") => `(tactic| fail)
local macro_rules | `(tactic| walk_at "no such line") => `(tactic| fail)
local macro_rules | `(tactic| walk_at "no such line") => `(tactic| fail)
local macro_rules | `(tactic| walk_at "no such line") => `(tactic| fail)
local macro_rules | `(tactic| walk_at "no such line") => `(tactic| fail)
local macro_rules | `(tactic| walk_at "no such line") => `(tactic| fail)
local macro_rules | `(tactic| walk_at "no such line") => `(tactic| fail)
local macro_rules | `(tactic| walk_at "no such line") => `(tactic| fail)
local macro_rules | `(tactic| walk_at "no such line") => `(tactic| fail)
local macro_rules | `(tactic| walk_at "no such line") => `(tactic| fail)
local macro_rules | `(tactic| walk_at "no such line") => `(tactic| fail)
local macro_rules | `(tactic| walk_at "no such line") => `(tactic| fail)
local macro_rules | `(tactic| walk_at "no such line") => `(tactic| fail)
local macro_rules | `(tactic| walk_at "no such line") => `(tactic| fail)
local macro_rules | `(tactic| walk_at "no such line") => `(tactic| fail)
local macro_rules | `(tactic| walk_at "no such line") => `(tactic| fail)
local macro_rules | `(tactic| walk_at "no such line") => `(tactic| fail)
local macro_rules | `(tactic| walk_at "no such line") => `(tactic| fail)
local macro_rules | `(tactic| walk_at "no such line") => `(tactic| fail)
local macro_rules | `(tactic| walk_at "no such line") => `(tactic| fail)
local macro_rules | `(tactic| walk_at "no such line") => `(tactic| fail)
local macro_rules | `(tactic| walk_at "no such line") => `(tactic| fail)
local macro_rules | `(tactic| walk_at "no such line") => `(tactic| fail)
local macro_rules | `(tactic| walk_at "no such line") => `(tactic| fail)
local macro_rules | `(tactic| walk_at "no such line") => `(tactic| fail)
local macro_rules | `(tactic| walk_at "no such line") => `(tactic| fail)
local macro_rules | `(tactic| walk_at "no such line") => `(tactic| fail)
local macro_rules | `(tactic| walk_at "no such line") => `(tactic| fail)
local macro_rules | `(tactic| walk_at "no such line") => `(tactic| fail)
local macro_rules | `(tactic| walk_at "no such line") => `(tactic| fail)
local macro_rules | `(tactic| walk_at "eval BinOp") => `(tactic| (k_here; k_dflt (refine' Mine.pev_ok ?F ?e ?c ?k ?_; (case F => k_asm); (case e => exact rfl); (case c => (repeat (first | exact trivial | refine And.intro (by mul_fits) ?_))); (case k => rfl); k_whole)))
local macro_rules | `(tactic| walk_at "spliced") => `(tactic| (k_here; k_dflt (refine' Mine.args_ok ?F ?k ?e ?c ?_; (case F => k_asm); (case k => rfl); (case e => exact rfl); (case c => (repeat (first | exact trivial | refine And.intro (by mul_fits) ?_))); k_whole)))
local macro_rules | `(tactic| walk_at "isTrue Compare") => `(tactic| (k_here; k_dflt (refine' Mine.cmp_ok ?F ?e ?c ?k ?n ?_; (case F => k_asm); (case e => exact rfl); (case c => (repeat (first | exact trivial | refine And.intro (by mul_fits) ?_))); (case k => rfl); (case n => rfl); k_whole)))
local macro_rules | `(tactic| walk_at "exec Assign") => `(tactic| (k_here; k_dflt (refine' Mine.assign_ok ?F ?N ?e ?c ?k ?x ?s ?_; (case F => k_asm); (case N => k_asm); (case e => exact rfl); (case c => (repeat (first | exact trivial | refine And.intro (by mul_fits) ?_))); (case k => rfl); (case x => rfl); (case s => rfl); k_whole; intro h' m' F' N'; (try k_sweep))))
local macro_rules | `(tactic| walk_at "exec Return some") => `(tactic| (k_here; k_dflt (refine' Mine.ret_ok ?F ?e ?c ?k ?_; (case F => k_asm); (case e => exact rfl); (case c => (repeat (first | exact trivial | refine And.intro (by mul_fits) ?_))); (case k => rfl); k_whole)))
local macro_rules | `(tactic| walk_at "storeName") => `(tactic| (k_here; k_dflt (refine' Mine.storeY_L ?F ?N ?_ ?a ?b; (case F => k_asm); (case N => k_asm); (case a => rfl); (case b => rfl); k_whole; intro h' m' F' N'; (try k_sweep))))
local macro_rules | `(tactic| k_steps) => `(tactic| repeat' (first | dsimp only | (k_unfold; (try dsimp only)) | (k_end; wrow_close) | walk1 | (dsimp only; walk1) | (leave1; walk_say "STEP leave1"; try dsimp only) | fail "no step"))
local macro_rules | `(tactic| k_ne) => `(tactic| (refine PySem.W.neN ?_; (try dsimp only); first
  | with_reducible assumption
  | ((with_reducible refine Nat.ne_of_lt ?_); (repeat with_reducible refine Mine.nzLT ?_); (first | with_reducible assumption | exact Mine.nzA1 (by with_reducible assumption) | exact Mine.nzA2 (by with_reducible assumption) | exact Mine.nzZ2 (by with_reducible assumption) | exact Mine.nzA3 (by with_reducible assumption) | exact Mine.nzZ3 (by with_reducible assumption) | exact Mine.nzA4 (by with_reducible assumption) | exact Mine.nzZ4 (by with_reducible assumption) | exact Mine.nzA5 (by with_reducible assumption) | exact Mine.nzZ5 (by with_reducible assumption) | exact Mine.nzA6 (by with_reducible assumption) | exact Mine.nzZ6 (by with_reducible assumption) | exact Mine.nzA7 (by with_reducible assumption) | exact Mine.nzZ7 (by with_reducible assumption) | exact Mine.nzA8 (by with_reducible assumption) | exact Mine.nzZ8 (by with_reducible assumption) | exact Mine.nzA9 (by with_reducible assumption) | exact Mine.nzZ9 (by with_reducible assumption) | exact Mine.nzA10 (by with_reducible assumption) | exact Mine.nzZ10 (by with_reducible assumption) | exact Mine.nzA11 (by with_reducible assumption) | exact Mine.nzZ11 (by with_reducible assumption) | exact Mine.nzA12 (by with_reducible assumption) | exact Mine.nzZ12 (by with_reducible assumption) | exact Mine.nzA13 (by with_reducible assumption) | exact Mine.nzZ13 (by with_reducible assumption) | exact Mine.nzA14 (by with_reducible assumption) | exact Mine.nzZ14 (by with_reducible assumption) | exact Mine.nzA15 (by with_reducible assumption) | exact Mine.nzZ15 (by with_reducible assumption) | exact Mine.nzA16 (by with_reducible assumption) | exact Mine.nzZ16 (by with_reducible assumption)))
  | ((with_reducible refine Nat.ne_of_gt ?_); (repeat with_reducible refine Mine.nzLT ?_); (first | with_reducible assumption | exact Mine.nzA1 (by with_reducible assumption) | exact Mine.nzA2 (by with_reducible assumption) | exact Mine.nzZ2 (by with_reducible assumption) | exact Mine.nzA3 (by with_reducible assumption) | exact Mine.nzZ3 (by with_reducible assumption) | exact Mine.nzA4 (by with_reducible assumption) | exact Mine.nzZ4 (by with_reducible assumption) | exact Mine.nzA5 (by with_reducible assumption) | exact Mine.nzZ5 (by with_reducible assumption) | exact Mine.nzA6 (by with_reducible assumption) | exact Mine.nzZ6 (by with_reducible assumption) | exact Mine.nzA7 (by with_reducible assumption) | exact Mine.nzZ7 (by with_reducible assumption) | exact Mine.nzA8 (by with_reducible assumption) | exact Mine.nzZ8 (by with_reducible assumption) | exact Mine.nzA9 (by with_reducible assumption) | exact Mine.nzZ9 (by with_reducible assumption) | exact Mine.nzA10 (by with_reducible assumption) | exact Mine.nzZ10 (by with_reducible assumption) | exact Mine.nzA11 (by with_reducible assumption) | exact Mine.nzZ11 (by with_reducible assumption) | exact Mine.nzA12 (by with_reducible assumption) | exact Mine.nzZ12 (by with_reducible assumption) | exact Mine.nzA13 (by with_reducible assumption) | exact Mine.nzZ13 (by with_reducible assumption) | exact Mine.nzA14 (by with_reducible assumption) | exact Mine.nzZ14 (by with_reducible assumption) | exact Mine.nzA15 (by with_reducible assumption) | exact Mine.nzZ15 (by with_reducible assumption) | exact Mine.nzA16 (by with_reducible assumption) | exact Mine.nzZ16 (by with_reducible assumption)))
  | ((repeat with_reducible refine Mine.nzSS ?_); (first | with_reducible refine Mine.nzS0 ?_ | with_reducible refine Mine.nz0S ?_); (repeat (first | with_reducible exact Nat.le_refl _ | with_reducible refine Mine.nzLS ?_)); done)
  | (first | with_reducible assumption | exact Mine.nzA1 (by with_reducible assumption) | exact Mine.nzA2 (by with_reducible assumption) | exact Mine.nzZ2 (by with_reducible assumption) | exact Mine.nzA3 (by with_reducible assumption) | exact Mine.nzZ3 (by with_reducible assumption) | exact Mine.nzA4 (by with_reducible assumption) | exact Mine.nzZ4 (by with_reducible assumption) | exact Mine.nzA5 (by with_reducible assumption) | exact Mine.nzZ5 (by with_reducible assumption) | exact Mine.nzA6 (by with_reducible assumption) | exact Mine.nzZ6 (by with_reducible assumption) | exact Mine.nzA7 (by with_reducible assumption) | exact Mine.nzZ7 (by with_reducible assumption) | exact Mine.nzA8 (by with_reducible assumption) | exact Mine.nzZ8 (by with_reducible assumption) | exact Mine.nzA9 (by with_reducible assumption) | exact Mine.nzZ9 (by with_reducible assumption) | exact Mine.nzA10 (by with_reducible assumption) | exact Mine.nzZ10 (by with_reducible assumption) | exact Mine.nzA11 (by with_reducible assumption) | exact Mine.nzZ11 (by with_reducible assumption) | exact Mine.nzA12 (by with_reducible assumption) | exact Mine.nzZ12 (by with_reducible assumption) | exact Mine.nzA13 (by with_reducible assumption) | exact Mine.nzZ13 (by with_reducible assumption) | exact Mine.nzA14 (by with_reducible assumption) | exact Mine.nzZ14 (by with_reducible assumption) | exact Mine.nzA15 (by with_reducible assumption) | exact Mine.nzZ15 (by with_reducible assumption) | exact Mine.nzA16 (by with_reducible assumption) | exact Mine.nzZ16 (by with_reducible assumption))
  | (apply Ne.symm; (first | with_reducible assumption | exact Mine.nzA1 (by with_reducible assumption) | exact Mine.nzA2 (by with_reducible assumption) | exact Mine.nzZ2 (by with_reducible assumption) | exact Mine.nzA3 (by with_reducible assumption) | exact Mine.nzZ3 (by with_reducible assumption) | exact Mine.nzA4 (by with_reducible assumption) | exact Mine.nzZ4 (by with_reducible assumption) | exact Mine.nzA5 (by with_reducible assumption) | exact Mine.nzZ5 (by with_reducible assumption) | exact Mine.nzA6 (by with_reducible assumption) | exact Mine.nzZ6 (by with_reducible assumption) | exact Mine.nzA7 (by with_reducible assumption) | exact Mine.nzZ7 (by with_reducible assumption) | exact Mine.nzA8 (by with_reducible assumption) | exact Mine.nzZ8 (by with_reducible assumption) | exact Mine.nzA9 (by with_reducible assumption) | exact Mine.nzZ9 (by with_reducible assumption) | exact Mine.nzA10 (by with_reducible assumption) | exact Mine.nzZ10 (by with_reducible assumption) | exact Mine.nzA11 (by with_reducible assumption) | exact Mine.nzZ11 (by with_reducible assumption) | exact Mine.nzA12 (by with_reducible assumption) | exact Mine.nzZ12 (by with_reducible assumption) | exact Mine.nzA13 (by with_reducible assumption) | exact Mine.nzZ13 (by with_reducible assumption) | exact Mine.nzA14 (by with_reducible assumption) | exact Mine.nzZ14 (by with_reducible assumption) | exact Mine.nzA15 (by with_reducible assumption) | exact Mine.nzZ15 (by with_reducible assumption) | exact Mine.nzA16 (by with_reducible assumption) | exact Mine.nzZ16 (by with_reducible assumption)))
  | omega))
local macro_rules | `(tactic| k_lt $h:ident) => `(tactic| (replace $h := Mine.allLt1 $h; dsimp only [Mine.AllLt1, Mine.AllLtC] at $h:ident))
open PySem PySem.W PyProof.Rows
namespace Mine
set_option Elab.async false
local macro_rules | `(tactic| walk_at "eval ListComp") => `(tactic| (k_here; k_dflt (refine LCg.ListComp_U (F₀ := by k_asm) (by rfl) (by decide) (by rfl) (by decide) (by rfl) ?_)))
local macro_rules | `(tactic| walk_at "CompSrc") => `(tactic| (k_here; k_dflt (refine LCg.CompSrc.base (by rfl) (by k_asm) (by k_asm) (by assumption) (by assumption) ?_; intro g')))
local macro_rules | `(tactic| walk_at "call builtin:list.count") => `(tactic| (k_here; (try dsimp only); (simp only [List.cons_append, List.nil_append]); (with_reducible show wpAny _ _ (call (Value.builtin _) [Value.ref _, Value.int _ _]) _ _ _); k_dflt (refine count_list_ints (by is_list) (by assumption) ?_)))
/-- a colour, with its arm -/
def ColArm (h : Heap) (v : Value) (k : Int) : Prop := ∃ d r g b t1 t2 t3 n, v = .ref d ∧ h.get? d = some (W.listOf #[.float r t1, .float g t2, .float b t3] n) ∧ armFin r ∧ armFin g ∧ armFin b ∧ k = armI (armX r) (armX g) (armX b)
set_option maxRecDepth 100000 in
set_option maxHeartbeats 8000000 in
set_option pp.deepTerms false in
set_option pp.maxSteps 6000 in
theorem arms_spec (w : World) (D : Addr) (vs : Array Value) (ks : List Int) :
    CtrK w 12 120 193 [.ref D] (fun h => h.IsList D vs ∧ vs.size ≤ 1000 ∧ ks.length = vs.size ∧ ∀ (i : Nat) v, vs[i]? = some v → ∃ k, ks[i]? = some k ∧ ColArm h v k)
      (fun s Q => ∀ (d dl : Addr) (ys : List Value) (n : Nat) (t : Tok) (hz : Heap) (tz : Nat), Keep s.heap hz → s.heap.get? d = none → s.heap.get? dl = none → hz.get? d = some { cls := Value.type "tuple", data := Data.seq #[.ref dl, .int (ks.count 6 : Nat) t] } → hz.get? dl = some (W.listOf ys.toArray n) → IntsAre ys ((rangeKs 0 6).map fun k => ((ks.count k : Nat) : Int)) → d ≠ dl → Q (.ref d) { s with heap := hz, toks := tz }) := by
  dsimp only [CtrK, P0, LS]
  k_fill
  intro mean mg mb dp un gd cn cs a ccd cl outer A₀ base h₀ L m s Q E B F X T hk hpre hdp hun hret
  obtain ⟨hL, hsz0, hkl, hcol⟩ := hpre
  have hsz : vs.size ≤ sizeLine := by rw [sizeLine_eq]; omega
  refine wpAny_call ?_
  k_dflt (refine' enterPC ?k1 ?k2 ?k3 ?k5 ?kA ?kF ?kK ?k6 ?k7 ?k8 ?k9 ?kB ?kD ?_ ?c2 ?c3 ?c4; (case kA => exact rfl); (case kF => exact rfl); (case kK => assumption); (case k1 => k_asm); (case k2 => k_asm); (case k3 => k_asm); (case k5 => k_asm); (case k6 => k_is); (case k7 => k_is); (case k8 => ktr_room); (case k9 => exact BindsTo.of_eq rfl); (case kB => exact rfl); (case kD => decide +kernel); (case c2 => exact rfl); (case c3 => exact rfl); (case c4 => exact rfl); k_whole)
  intro L' h' tk' cells' F' N' Y' B' X' T'
  k_cells Y'
  (try simp only [List.cons_append, List.nil_append] at N')
  (try dsimp only)
  (try k_lift B')
  (try k_fold)
  (first | (refine Mine.letF F' ?_; clear F'; intro mz29 F') | skip); (first | (refine Mine.letAE ?_; intro envz29) | skip); (first | (refine Mine.genT ?_; intro tkz29) | skip)
  w_on
  k_steps
  (with_reducible rename News _ _ _ _ => kN)
  refine compInv (fun i ys nw => nw = _ ∧ IntsAre ys (ks.take i)) ⟨rfl, .nil⟩ ?_ ?_
  · intro i ys nw v I oI C oC D m₂ h tk E' hi hInv hP hC hx F N off ne
    obtain ⟨rfl, hI⟩ := hInv
    obtain ⟨k, hk1, d, r, g, b, t1, t2, t3, n, rfl, hd, hf1, hf2, hf3, rfl⟩ := hcol i v hP
    have off0 := off
    k_steps
    k_here
    k_dflt (refine' arm_spec w d r g b t1 t2 t3 n _ _ _ _ _ _ _ _ _ _ _ _ _ _ _ _ _ _ _ _ ?k1 ?k2 ?k3 ?k5 ?k6 ?k8 ?k9 ?k10 ?_; (case k1 => k_asm); (case k2 => k_asm); (case k3 => k_asm); (case k5 => k_asm); (case k6 => exact rfl); (case k8 => exact ⟨F.keep _ _ hd, hf1, hf2, hf3⟩); (case k9 => ktr_room); (case k10 => ktr_units); k_whole)
    intro t9 h9 tk9 kp9
    refine ⟨h9, tk9, _, rfl, frKeep F kp9, newsKeep N kp9, off0, ?_, rfl, ?_⟩
    · exact .inl hL
    · rw [List.take_add_one, hk1]
      simpa using IntsAre.append hI (.cons _ t9 .nil)
  · rintro ys nw ⟨rfl, hI⟩
    rw [← hkl, List.take_length] at hI
    k_steps
    (with_reducible rename Fr _ _ _ _ => zF)
    (with_reducible rename News _ _ _ _ => zN)
    have z1 := zN _ (.head _)
    have z2 := zN _ (.tail _ (.head _))
    rename_i l1
    exact hret _ _ _ _ _ _ _ zF.keep z1.2.2 z2.2.2 z1.1 z2.1 (by assumption) (Nat.ne_of_gt l1.1)
end Mine
end
section -- WsM
open PySem
namespace Mine
set_option linter.unusedSimpArgs false
/-- the members of a lead as its signs are read -/
structure WS where
  cnt : List Int
  b : Nat
  n : Nat
  nt : Nat
def bump (c : List Int) (b : Nat) : List Int :=
  let d := if b ≥ c.length then c ++ List.replicate (b - c.length + 1) 0 else c
  d.set b (d.getD b 0 + 1)
def WS.step (s : WS) (c : Nat) : WS := if c = 32 then ⟨s.cnt, s.b + 1, s.n + 1, s.nt⟩ else ⟨bump s.cnt s.b, 0, s.n + 1, s.nt + 1⟩
def leadTxt (ks : List Nat) : List Nat := ks.flatMap fun k => List.replicate k 32 ++ [9]
def cntOf (ks : List Nat) : List Int := ks.foldl bump []
theorem spaces (k : Nat) : ∀ s : WS, (List.replicate k 32).foldl WS.step s = ⟨s.cnt, s.b + k, s.n + k, s.nt⟩ := by
  induction k with
  | zero => intro s; rfl
  | succ k ih => intro s; rw [List.replicate_succ, List.foldl_cons, ih]; simp [WS.step]; omega
theorem lead_runs (ks : List Nat) : ∀ (c : List Int) (n nt : Nat), (leadTxt ks).foldl WS.step ⟨c, 0, n, nt⟩ = ⟨ks.foldl bump c, 0, n + ks.sum + ks.length, nt + ks.length⟩ := by
  induction ks with
  | nil => intros; rfl
  | cons k ks ih =>
    intro c n nt
    simp only [leadTxt, List.flatMap_cons, List.foldl_append, spaces, List.foldl_cons, List.foldl_nil]
    have e := ih (bump c k) (n + k + 1) (nt + 1)
    simp only [leadTxt] at e
    simp only [WS.step, show (9:Nat) ≠ 32 by decide, if_false, Nat.zero_add]
    rw [e]
    simp only [List.sum_cons, List.length_cons, WS.mk.injEq, true_and]
    omega
theorem lead_all (ks : List Nat) (tail : Nat) : (leadTxt ks ++ List.replicate tail 32).foldl WS.step ⟨[], 0, 0, 0⟩ = ⟨cntOf ks, tail, ks.sum + ks.length + tail, ks.length⟩ := by
  rw [List.foldl_append, lead_runs, spaces]; simp [cntOf]
/-- runs of two lengths -/
def cntQ (q x y : Nat) : List Int := if 0 < y then List.replicate q 0 ++ [(x : Int), (y : Int)] else if 0 < x then List.replicate q 0 ++ [(x : Int)] else []
theorem bump_q (q x y : Nat) : bump (cntQ q x y) q = cntQ q (x + 1) y := by
  unfold bump cntQ
  by_cases hy : 0 < y
  · simp [hy, show ¬ (q + 2 ≤ q) by omega, List.set_append, List.getElem?_append]
  · by_cases hx : 0 < x
    · simp [hy, hx, show ¬ (q + 1 ≤ q) by omega, List.set_append, List.getElem?_append]
    · have : x = 0 := by omega
      subst this
      simp [hy, List.replicate_succ', List.set_append, List.getElem?_append]
theorem bump_q1 (q x y : Nat) : bump (cntQ q x y) (q + 1) = cntQ q x (y + 1) := by
  unfold bump cntQ
  by_cases hy : 0 < y
  · simp [hy, List.set_append, List.getElem?_append]
  · have : y = 0 := by omega
    subst this
    by_cases hx : 0 < x
    · simp [hx, List.set_append, List.getElem?_append]
    · have : x = 0 := by omega
      subst this
      have e : (List.replicate (q + 1 + 1) (0 : Int)) = List.replicate q 0 ++ [0, 0] := by
        rw [List.replicate_succ', List.replicate_succ', List.append_assoc]; rfl
      simp [e, List.set_append, List.getElem?_append]
theorem cnt_two (q : Nat) : ∀ (ks : List Nat) (x y : Nat), (∀ k ∈ ks, k = q ∨ k = q + 1) → ks.foldl bump (cntQ q x y) = cntQ q (x + ks.count q) (y + ks.count (q + 1))
  | [], x, y, _ => by simp
  | k :: ks, x, y, h => by
    have ih := fun x y => cnt_two q ks x y fun k hk => h k (.tail _ hk)
    rcases h k (.head _) with rfl | rfl
    · rw [List.foldl_cons, bump_q, ih, List.count_cons_self, List.count_cons_of_ne (by omega)]; congr 1; omega
    · rw [List.foldl_cons, bump_q1, ih, List.count_cons_self, List.count_cons_of_ne (by omega)]; congr 1; omega
theorem cntOf_two {q : Nat} {ks : List Nat} (h : ∀ k ∈ ks, k = q ∨ k = q + 1) : cntOf ks = cntQ q (ks.count q) (ks.count (q + 1)) := by
  have := cnt_two q ks 0 0 h
  simpa [cntOf, cntQ] using this
theorem bump_zero_ne {c : List Int} (h : c ≠ []) : bump c 0 ≠ c := by
  cases c with
  | nil => exact absurd rfl h
  | cons a c =>
    intro e
    simp [bump] at e
    omega
theorem cntOf_snoc (ks : List Nat) (k : Nat) : cntOf (ks ++ [k]) = bump (cntOf ks) k := by simp [cntOf, List.foldl_append]
/-- the columns -/
def colL (size : Int) : Nat → List Int → Int
  | _, [] => 0
  | i, c :: cs => (i : Int).fdiv size * c + colL size (i + 1) cs
theorem colL_append (size : Int) : ∀ (i : Nat) (c d : List Int), colL size i (c ++ d) = colL size i c + colL size (i + c.length) d
  | i, [], d => by simp [colL]
  | i, a :: c, d => by
    rw [List.cons_append, colL, colL, colL_append size (i + 1) c d, List.length_cons, Int.add_assoc, show i + 1 + c.length = i + (c.length + 1) by omega]
theorem colL_zero (size : Int) : ∀ (i : Nat) (k : Nat), colL size i (List.replicate k 0) = 0
  | i, 0 => rfl
  | i, k + 1 => by rw [List.replicate_succ, colL, colL_zero size (i + 1) k]; simp
theorem colL_low (size : Nat) : ∀ (i : Nat) (c : List Int), i + c.length ≤ size → colL size i c = 0
  | i, [], _ => rfl
  | i, a :: c, h => by
    rw [List.length_cons] at h
    rw [colL, colL_low size (i + 1) c (by omega), Int.fdiv_eq_ediv_of_nonneg _ (by omega), Int.ediv_eq_zero_of_lt (by omega) (by omega)]; simp
/-- the loop's sum -/
def colI (size : Nat) (c : List Int) : Int := colL size size (c.drop size)
theorem colI_eq (size : Nat) (c : List Int) : colI size c = colL size 0 c := by
  unfold colI
  by_cases h : c.length ≤ size
  · rw [List.drop_eq_nil_of_le h, colL_low size 0 c (by omega)]; rfl
  · have e := colL_append size 0 (c.take size) (c.drop size)
    rw [List.take_append_drop, colL_low size 0 (c.take size) (by rw [List.length_take]; omega), List.length_take, Nat.min_eq_left (by omega)] at e
    rw [e]; simp
theorem colI_cntQ (size q x y : Nat) : colI size (cntQ q x y) = (q : Int).fdiv size * x + ((q : Int) + 1).fdiv size * y := by
  rw [colI_eq]
  unfold cntQ
  by_cases hy : 0 < y
  · rw [if_pos hy, colL_append, colL_zero]; simp [colL]
  · have : y = 0 := by omega
    subst this
    by_cases hx : 0 < x
    · rw [if_neg hy, if_pos hx, colL_append, colL_zero]; simp [colL]
    · have : x = 0 := by omega
      subst this
      simp [colL]
end Mine
namespace Mine
theorem bump_len (c : List Int) (b : Nat) : (bump c b).length = if b ≥ c.length then b + 1 else c.length := by
  unfold bump
  by_cases h : b ≥ c.length
  · simp [h]; omega
  · simp [h]
theorem step_len (s : WS) (c n : Nat) (h : s.b ≤ n ∧ s.cnt.length ≤ n) : (s.step c).b ≤ n + 1 ∧ (s.step c).cnt.length ≤ n + 1 := by
  unfold WS.step
  split
  · dsimp only; exact ⟨by omega, by omega⟩
  · refine ⟨by simp, ?_⟩
    dsimp only
    rw [bump_len]; split <;> omega
def wsAt (l : List Nat) (i : Nat) : WS := (l.take i).foldl WS.step ⟨[], 0, 0, 0⟩
theorem wsAt_zero (l : List Nat) : wsAt l 0 = ⟨[], 0, 0, 0⟩ := by simp [wsAt]
theorem wsAt_succ {l : List Nat} {i c : Nat} (h : l[i]? = some c) : wsAt l (i + 1) = (wsAt l i).step c := by
  unfold wsAt
  rw [List.take_add_one, h, List.foldl_append]; rfl
theorem wsAt_len (l : List Nat) : ∀ i, i ≤ l.length → (wsAt l i).b ≤ i ∧ (wsAt l i).cnt.length ≤ i
  | 0, _ => by simp [wsAt]
  | i + 1, h => by
    rw [wsAt_succ (List.getElem?_eq_getElem (by omega))]
    exact step_len _ _ _ (wsAt_len l i (by omega))
theorem leadTxt_len (ks : List Nat) : (leadTxt ks).length = ks.sum + ks.length ∧ ((ks.map fun k => List.replicate k 32 ++ [9]).map (·.length)).sum = ks.sum + ks.length := by
  induction ks with
  | nil => simp [leadTxt]
  | cons k ks ih =>
    simp only [leadTxt, List.flatMap_cons, List.map_cons, List.length_append, List.length_replicate, List.length_cons, List.length_nil, List.sum_cons] at ih ⊢
    omega
theorem leadTxt_mem {ks : List Nat} {c : Nat} (h : c ∈ leadTxt ks) : c = 32 ∨ c = 9 := by
  unfold leadTxt at h
  obtain ⟨k, _, hc⟩ := List.mem_flatMap.mp h
  rcases List.mem_append.mp hc with hc | hc
  · exact .inl (List.eq_of_mem_replicate hc)
  · exact .inr (List.mem_singleton.mp hc)
theorem lead_at {W : List Nat} (hW : ∀ c ∈ W, c = 32 ∨ c = 9) {tail i c : Nat} (h : (W ++ List.replicate tail 32 ++ [10, 9, 32])[i]? = some c) (hi : i ≤ W.length + tail) :
    (i < W.length + tail ∧ (c = 32 ∨ c = 9) ∧ (W ++ List.replicate tail 32)[i]? = some c) ∨ (i = W.length + tail ∧ c = 10) := by
  by_cases h1 : i < W.length + tail
  · have e : (W ++ List.replicate tail 32)[i]? = some c := by
      rw [List.getElem?_append_left (by simp; omega)] at h; exact h
    refine .inl ⟨h1, ?_, e⟩
    rcases List.mem_append.mp (List.mem_of_getElem? e) with hc | hc
    · exact hW c hc
    · exact .inl (List.eq_of_mem_replicate hc)
  · have : i = W.length + tail := by omega
    refine .inr ⟨this, ?_⟩
    rw [List.getElem?_append_right (by simp; omega)] at h
    simp [this] at h
    exact h.symm
end Mine
namespace Mine
theorem mem_le_sum : ∀ {ks : List Nat} {k : Nat}, k ∈ ks → k ≤ ks.sum
  | a :: ks, k, h => by
    rw [List.sum_cons]
    rcases List.mem_cons.mp h with rfl | h
    · omega
    · have := mem_le_sum h; omega
end Mine
end
section -- DealM
open PySem
namespace Mine
/-- runs of two lengths -/
structure Two (ks : List Nat) : Prop where
  l1 : 1 ≤ ks.length
  l2 : ks.length ≤ 8
  s : ks.sum ≤ 12
  two : ∀ k ∈ ks, k = ks.sum / ks.length ∨ k = ks.sum / ks.length + 1
theorem count_two {q : Nat} : ∀ {ks : List Nat}, (∀ k ∈ ks, k = q ∨ k = q + 1) → ks.count q + ks.count (q + 1) = ks.length ∧ ks.sum = ks.length * q + ks.count (q + 1)
  | [], _ => by simp
  | k :: ks, h => by
    have ih := count_two (ks := ks) fun k hk => h k (.tail _ hk)
    rw [List.sum_cons, List.length_cons, Nat.add_mul]
    rcases h k (.head _) with rfl | rfl
    · rw [List.count_cons_self, List.count_cons_of_ne (by omega)]; omega
    · rw [List.count_cons_self, List.count_cons_of_ne (by omega)]; omega
theorem cnt_deal {ks : List Nat} {q r A : Nat} (h : ∀ k ∈ ks, k = q ∨ k = q + 1) (hA : ks.length = A) (hr : ks.sum % A = r) (hq : ks.sum / A = q) (h1 : 1 ≤ A) : cntOf ks = cntQ q (A - r) r := by
  have h2 := count_two h
  have h3 := Nat.div_add_mod ks.sum A
  rw [hr, hq] at h3
  rw [hA] at h2
  rw [cntOf_two h]
  congr 1 <;> omega
def aheadN (q A r : Nat) : List Nat := List.replicate r (q + 1) ++ List.replicate (A - r) q
theorem ahead_two (q A r : Nat) : ∀ k ∈ aheadN q A r, k = q ∨ k = q + 1 := by
  intro k hk
  rcases List.mem_append.mp hk with h | h
  · exact .inr (List.eq_of_mem_replicate h)
  · exact .inl (List.eq_of_mem_replicate h)
theorem ahead_len {q A r : Nat} (h : r < A) : (aheadN q A r).length = A := by simp [aheadN]; omega
theorem ahead_sum {q A r : Nat} (h : r < A) : (aheadN q A r).sum = q * A + r := by
  simp only [aheadN, List.sum_append, List.sum_replicate_nat]
  obtain ⟨d, rfl⟩ : ∃ d, A = r + d := ⟨A - r, by omega⟩
  rw [Nat.add_sub_cancel_left, Nat.mul_add, Nat.mul_add, Nat.mul_comm q r, Nat.mul_comm q d]
  omega
theorem cnt_ahead {q A r : Nat} (h : r < A) : cntOf (aheadN q A r) = cntQ q (A - r) r := by
  rw [cntOf_two (ahead_two q A r)]
  simp only [aheadN, List.count_append, List.count_replicate]
  congr 1 <;> simp
theorem cntQ_len {q A r : Nat} (h : r < A) : (cntQ q (A - r) r).length = q + (if 0 < r then 2 else 1) := by
  unfold cntQ
  by_cases h1 : 0 < r
  · simp [h1]
  · simp [h1, show 0 < A - r by omega]
theorem cntQ_mem {q A r : Nat} (h : r < A) (hA : A ≤ 8) : ∀ v ∈ cntQ q (A - r) r, 0 ≤ v ∧ v ≤ 100 := by
  intro v hv
  unfold cntQ at hv
  by_cases h1 : 0 < r
  · simp [h1] at hv; rcases hv with h2 | h2 | h2
    · omega
    · omega
    · omega
  · simp [h1, show 0 < A - r by omega] at hv; rcases hv with h2 | h2 <;> omega
theorem cntQ_ne {q A r : Nat} (h : r < A) : cntQ q (A - r) r ≠ [] := by
  intro e
  have := cntQ_len (q := q) h
  rw [e] at this; simp at this; split at this <;> omega
theorem cnt_more {q A r : Nat} (h : r < A) : cntOf (aheadN q A r ++ [0]) ≠ cntQ q (A - r) r := by
  rw [cntOf_snoc, cnt_ahead h]
  exact bump_zero_ne (cntQ_ne h)
theorem col_deal {q A r : Nat} (size : Nat) (h : r < A) : (r : Int) + size * (colI size (cntQ q (A - r) r) + A) = (((A : Int) - r) * ((q : Int).fdiv size + 1) + r * (((q : Int) + 1).fdiv size + 1)) * size + r := by
  rw [colI_cntQ]
  have e : ((A - r : Nat) : Int) = (A : Int) - r := by omega
  rw [e]
  generalize (q : Int).fdiv size = a
  generalize ((q : Int) + 1).fdiv size = b
  grind
end Mine
end
section -- Cnt
open PySem
namespace Mine
/-- the places of a row -/
def placesL (h : Nat) (s b : Int) : List Int := (List.range h).map fun j : Nat => b + s * (j : Int)
theorem shiftP : ∀ h < 13, ∀ m < h, ((List.range h).map fun j => (m + j) % h).Perm (List.range h) := by decide +kernel
/-- how many of a dealt row lie in a sector -/
def runN (h s c N k : Nat) : Nat := ((List.range h).map fun i => (s * i + c) * N / (h * s)).count k
def chkRun (h s c N : Nat) : Bool :=
  let ks := (List.range N).map (runN h s c N)
  ks.sum == h && ks.all fun k => k == h / N || k == h / N + 1
theorem chkAll : ((List.range 12).all fun h => (List.range 5).all fun s => (List.range (s + 1)).all fun c => (List.range 8).all fun N => chkRun (h + 1) (s + 1) c (N + 1)) = true := by decide +kernel
theorem chk {h s c N : Nat} (h1 : 1 ≤ h) (h2 : h ≤ 12) (s1 : 1 ≤ s) (s2 : s ≤ 5) (hc : c < s) (n1 : 1 ≤ N) (n2 : N ≤ 8) : chkRun h s c N = true := by
  have a := List.all_eq_true.mp chkAll (h - 1) (List.mem_range.mpr (by omega))
  have b := List.all_eq_true.mp a (s - 1) (List.mem_range.mpr (by omega))
  have d := List.all_eq_true.mp b c (List.mem_range.mpr (by omega))
  have e := List.all_eq_true.mp d (N - 1) (List.mem_range.mpr (by omega))
  rwa [show h - 1 + 1 = h by omega, show s - 1 + 1 = s by omega, show N - 1 + 1 = N by omega] at e
theorem place_mod {h s : Nat} {b : Int} (h1 : 1 ≤ h) (s1 : 1 ≤ s) (j : Nat) :
    (b + (s : Int) * (j : Int)) % ((h : Int) * (s : Int)) = ((s * ((((b / (s : Int)) % (h : Int)).toNat + j) % h) + (b % (s : Int)).toNat : Nat) : Int) := by
  have e1 := Int.mul_ediv_add_emod b (s : Int)
  have c0 := Int.emod_nonneg b (show (s : Int) ≠ 0 by omega)
  have c1 := Int.emod_lt_of_pos b (show (0 : Int) < (s : Int) by omega)
  have m0 := Int.emod_nonneg (b / (s : Int)) (show (h : Int) ≠ 0 by omega)
  have e2 := Int.mul_ediv_add_emod (b / (s : Int)) (h : Int)
  obtain ⟨c, hc⟩ : ∃ c : Nat, b % (s : Int) = c := ⟨(b % (s : Int)).toNat, by omega⟩
  obtain ⟨m, hm⟩ : ∃ m : Nat, b / (s : Int) % (h : Int) = m := ⟨(b / (s : Int) % (h : Int)).toNat, by omega⟩
  rw [hc] at e1 c1
  rw [hm] at e2
  rw [hc, hm, Int.toNat_natCast, Int.toNat_natCast]
  have hb : b + (s : Int) * (j : Int) = ((s * (m + j) + c : Nat) : Int) + (h : Int) * (s : Int) * (b / (s : Int) / (h : Int)) := by
    have e3 : (s : Int) * (b / (s : Int)) = (s : Int) * ((h : Int) * (b / (s : Int) / (h : Int)) + (m : Int)) := congrArg _ e2.symm
    generalize b / (s : Int) / (h : Int) = q at *
    generalize b / (s : Int) = r at *
    push_cast
    grind
  rw [hb, Int.add_mul_emod_self_left, ← Int.natCast_mul, ← Int.natCast_emod]
  congr 1
  have h3 : s * (m + j) % (h * s) = s * ((m + j) % h) := by rw [Nat.mul_comm h s, Nat.mul_mod_mul_left]
  rw [Nat.add_mod, h3]
  have hcs : c < s := by omega
  have hlt : s * ((m + j) % h) + s ≤ h * s := by
    have h4 := Nat.mod_lt (m + j) (show h > 0 by omega)
    have := Nat.mul_le_mul_left s (show (m + j) % h + 1 ≤ h by omega)
    rw [Nat.mul_comm h s]; rw [Nat.mul_add, Nat.mul_one] at this; exact this
  rw [Nat.mod_eq_of_lt (show c < h * s by omega), Nat.mod_eq_of_lt (by omega)]
/-- the sector of a place -/
def secP (N t p : Int) : Int := (p % t) * N / t
theorem run_count {h s N : Nat} {b : Int} (h1 : 1 ≤ h) (h2 : h ≤ 12) (s1 : 1 ≤ s) (k : Nat) :
    ((placesL h s b).map (secP (N : Int) ((h : Int) * (s : Int)))).count (k : Int) = runN h s (b % (s : Int)).toNat N k := by
  have m0 := Int.emod_nonneg (b / (s : Int)) (show (h : Int) ≠ 0 by omega)
  have m1 := Int.emod_lt_of_pos (b / (s : Int)) (show (0 : Int) < (h : Int) by omega)
  have e : (placesL h s b).map (secP (N : Int) ((h : Int) * (s : Int))) = (((List.range h).map fun j => (((b / (s : Int)) % (h : Int)).toNat + j) % h).map fun i => (((s * i + (b % (s : Int)).toNat) * N / (h * s) : Nat) : Int)) := by
    unfold placesL secP
    rw [List.map_map, List.map_map]
    refine List.map_congr_left fun j _ => ?_
    simp only [Function.comp_apply]
    rw [place_mod h1 s1 j]
    push_cast
    rfl
  have hp := (shiftP h (by omega) ((b / (s : Int)) % (h : Int)).toNat (by omega)).map (fun i => (((s * i + (b % (s : Int)).toNat) * N / (h * s) : Nat) : Int))
  rw [e, hp.count_eq]
  unfold runN
  have : (List.range h).map (fun i => (((s * i + (b % (s : Int)).toNat) * N / (h * s) : Nat) : Int)) = ((List.range h).map (fun i => (s * i + (b % (s : Int)).toNat) * N / (h * s))).map (fun n : Nat => (n : Int)) := by
    rw [List.map_map]; rfl
  rw [this]
  generalize (List.range h).map (fun i => (s * i + (b % (s : Int)).toNat) * N / (h * s)) = l
  induction l with
  | nil => rfl
  | cons a l ih =>
    rw [List.map_cons, List.count_cons, List.count_cons, ih]
    congr 1
    by_cases hk : a = k
    · subst hk; simp
    · have : ¬ ((a : Int) = (k : Int)) := by omega
      simp [hk, this]
theorem two_runs {h s N : Nat} {b : Int} (h1 : 1 ≤ h) (h2 : h ≤ 12) (s1 : 1 ≤ s) (s2 : s ≤ 5) (n1 : 1 ≤ N) (n2 : N ≤ 8) :
    Two ((List.range N).map fun k : Nat => ((placesL h s b).map (secP (N : Int) ((h : Int) * (s : Int)))).count (k : Int)) := by
  have hc := Int.emod_lt_of_pos b (show (0 : Int) < (s : Int) by omega)
  have hk := chk h1 h2 s1 s2 (c := (b % (s : Int)).toNat) (by have := Int.emod_nonneg b (show (s : Int) ≠ 0 by omega); omega) n1 n2
  have e : ((List.range N).map fun k : Nat => ((placesL h s b).map (secP (N : Int) ((h : Int) * (s : Int)))).count (k : Int)) = (List.range N).map (runN h s (b % (s : Int)).toNat N) :=
    List.map_congr_left fun k _ => run_count h1 h2 s1 k
  rw [e]
  unfold chkRun at hk
  simp only [Bool.and_eq_true, beq_iff_eq, List.all_eq_true, Bool.or_eq_true] at hk
  refine ⟨by simpa using n1, by simpa using n2, by rw [hk.1]; exact h2, fun k hk' => ?_⟩
  rw [hk.1, List.length_map, List.length_range]
  exact hk.2 k hk'
end Mine
end
section -- Kcols
open PySem PySem.W PySem.Calls PyProof.Rows
namespace Mine
theorem stepF {prog : Program} {w : World} {A : Around} {t : Sem Flow} {Q : Flow → Shared → Prop} {E : Value → Shared → Prop} {s : Shared} (P : Heap → Prop)
    (h1 : ∀ Q' : Flow → Shared → Prop, (∀ h tk, P h → Q' Flow.next { s with heap := h, toks := tk }) → wpAny (model prog w) A t Q' E s) (h2 : ∀ h tk, P h → Q .next { s with heap := h, toks := tk }) : wpAny (model prog w) A t Q E s := h1 Q h2
abbrev col3 (c : UInt64 × UInt64 × UInt64) (t1 t2 t3 : Tok) (n : Nat) : Obj := W.listOf #[Value.float c.1 t1, Value.float c.2.1 t2, Value.float c.2.2 t3] n
theorem nameAll2 {P : Prop} {h₀ h : Heap} {L : Addr} {r : List (Addr × Obj)} (N : News h₀ L h r) (k : ∀ r', r = r' → News h₀ L h r' → P) : P := k r rfl N
theorem newsNil {h₀ h : Heap} {L : Addr} {r : List (Addr × Obj)} (N : News h₀ L h r) : News h₀ L h (r ++ []) := by rw [List.append_nil]; exact N
/-- the first n places' colours -/
def ColsN (f : Int → UInt64 × UInt64 × UInt64) (ps : List Int) (n : Nat) (vs : List Value) (nv : List (Addr × Obj)) : Prop :=
  vs.length = n ∧ ∀ j p, j < n → ps[j]? = some p → ∃ d t1 t2 t3 k, vs[j]? = some (.ref d) ∧ (d, col3 (f p) t1 t2 t3 k) ∈ nv
theorem ColsN.snoc {f : Int → UInt64 × UInt64 × UInt64} {ps : List Int} {n : Nat} {vs : List Value} {nv : List (Addr × Obj)} {d : Addr} {t1 t2 t3 : Tok} {k : Nat} {p : Int} (h : ColsN f ps n vs nv) (hp : ps[n]? = some p) :
    ColsN f ps (n + 1) (vs ++ [.ref d]) ((d, col3 (f p) t1 t2 t3 k) :: nv) := by
  refine ⟨by rw [List.length_append, h.1]; rfl, fun j q hj hq => ?_⟩
  by_cases e : j = n
  · subst e
    rw [hp] at hq; cases hq
    refine ⟨d, t1, t2, t3, k, ?_, .head _⟩
    rw [List.getElem?_append_right (by rw [h.1]; exact Nat.le_refl _), h.1, Nat.sub_self]; rfl
  · obtain ⟨d', a, b, c, k', h1, h2⟩ := h.2 j q (by omega) hq
    exact ⟨d', a, b, c, k', by rw [List.getElem?_append_left (by rw [h.1]; omega)]; exact h1, .tail _ h2⟩
theorem off1_mem {D : Addr} : ∀ {l : List (Addr × Obj)}, LCg.Off1 D l → ∀ p ∈ l, p.1 ≠ D
  | [], _, _, h => nomatch h
  | _ :: _, x, p, h => by
    rcases List.mem_cons.mp h with rfl | h
    · exact x.1
    · exact off1_mem x.2 p h
/-- where a turn's element ends: a new list of three floats -/
def ColEnd (h₀ : Heap) (L : Addr) (m : Str → Option Value) (led : List (Addr × Obj)) (c : UInt64 × UInt64 × UInt64) (s : Shared) (y : Value) (s' : Shared) : Prop :=
  ∃ d t1 t2 t3 k h' tk', y = .ref d ∧ s' = { s with heap := h', toks := tk' } ∧ Fr h₀ L h' m ∧ News h₀ L h' ((d, col3 c t1 t2 t3 k) :: led) ∧ ∀ p ∈ led, p.1 ≠ d
theorem compCols {prog : Program} {w : World} {A : Around} {h₀ : Heap} {L : Addr} {m : Str → Option Value} {env : Env} {elt : Expr} {x : Str} {scope : Scope} {cl : List (Str × Addr)} {s : Shared} {S : List (Addr × Obj) → Prop} {its : Array Value} {Fin : List Value → List (Addr × Obj) → Prop} {n : Nat}
    (f : Int → UInt64 × UInt64 × UInt64) (ps : List Int) (R nv₀ : List (Addr × Obj)) (hn : n = ps.length) (hI : IntsAre its.toList ps) (hS : ∀ nv, S (R ++ nv))
    (turn : ∀ (i : Nat) (p : Int) (t : Tok) I oI C oC D m₂ h tk (nv : List (Addr × Obj)) (ys : List Value) (E' : Value → Shared → Prop), ps[i]? = some p → LCg.NsObj oC m₂ → m₂ x = some (.int p t) → Fr h₀ L h m → News h₀ L h ((I, oI) :: (C, oC) :: (D, LCg.lst ys) :: (R ++ nv)) → ((@Ne Nat I C) ∧ (@Ne Nat I D) ∧ (@Ne Nat C D)) →
      wpAny (model prog w) A (eval elt (compEnvC scope cl C env)) (ColEnd h₀ L m ((I, oI) :: (C, oC) :: (D, LCg.lst ys) :: (R ++ nv)) (f p) { s with heap := h, toks := tk }) E' { s with heap := h, toks := tk })
    (fin : ∀ ys nv, (∀ p ∈ nv₀, p ∈ nv) → (∀ p ∈ nv, p ∈ nv₀ ∨ ∀ q ∈ R, p.1 ≠ q.1) → ColsN f ps ps.length ys nv → Fin ys (R ++ nv)) : LCg.CompRest prog w A h₀ L m env elt x scope cl s S (fun i v => its[i]? = some v) Fin n 0 [] (R ++ nv₀) := by
  refine compInv (fun i ys nw => ∃ nv, nw = R ++ nv ∧ (∀ p ∈ nv₀, p ∈ nv) ∧ (∀ p ∈ nv, p ∈ nv₀ ∨ ∀ q ∈ R, p.1 ≠ q.1) ∧ ColsN f ps i ys nv) ⟨nv₀, rfl, fun _ h => h, fun _ h => .inl h, rfl, fun j p h => absurd h (Nat.not_lt_zero _)⟩ ?_ ?_
  · rintro i ys nw v I oI C oC D m₂ h tk E' hi ⟨nv, rfl, hsub, hoff, hc⟩ hv hC hx F N off ne
    obtain ⟨p, t, rfl, hp⟩ := IntsAre.at hI i v (by rw [Array.getElem?_toList]; exact hv)
    refine wpAny_mono (turn i p t I oI C oC D m₂ h tk nv ys E' hp hC hx F N ne) (fun y s₂ hq => ?_) fun _ _ e => e
    obtain ⟨d, t1, t2, t3, k, h', tk', rfl, rfl, F', N', hd⟩ := hq
    refine ⟨h', tk', R ++ ((d, col3 (f p) t1 t2 t3 k) :: nv), rfl, F', ?_, LCg.Off3.of ?_, hS _, _, rfl, fun q hq => .tail _ (hsub q hq), ?_, hc.snoc hp⟩
    · intro q hq
      apply N'
      simp only [List.mem_cons, List.mem_append] at hq ⊢
      rcases hq with h | h | h | h | h | h <;> simp [h]
    · intro q hq
      simp only [List.mem_cons, List.mem_append] at hq
      have o3 := LCg.Off3.mem off
      rcases hq with h | rfl | h
      · exact o3 q (List.mem_append_left _ h)
      · exact ⟨fun e => hd (I, oI) (.head _) e.symm, fun e => hd (C, oC) (.tail _ (.head _)) e.symm, fun e => hd (D, LCg.lst ys) (.tail _ (.tail _ (.head _))) e.symm⟩
      · exact o3 q (List.mem_append_right _ h)
    · intro q hq
      rcases List.mem_cons.mp hq with rfl | hq
      · exact .inr fun r hr e => hd r (.tail _ (.tail _ (.tail _ (List.mem_append_left _ hr)))) e.symm
      · exact hoff q hq
  · rintro ys nw ⟨nv, rfl, hsub, hoff, hc⟩
    rw [hn] at hc
    exact fin ys nv hsub hoff hc
end Mine
namespace Mine
theorem place_in {hN sN : Nat} {b p : Int} {i : Nat} (h : (placesL hN sN b)[i]? = some p) : ∃ j : Nat, j < hN ∧ p = b + (sN : Int) * (j : Int) := by
  obtain ⟨j, hj, rfl⟩ := List.mem_map.mp (List.mem_of_getElem? h)
  exact ⟨j, List.mem_range.mp hj, rfl⟩
theorem place_bd {hN sN : Nat} {b p : Int} {i : Nat} (h : (placesL hN sN b)[i]? = some p) (b1 : -50 ≤ b) (b2 : b ≤ 49) (s1 : 1 ≤ sN) (s2 : sN ≤ 5) (h1 : 1 ≤ hN) (h2 : hN ≤ 12) : -50 ≤ p ∧ p ≤ 49 + (hN : Int) * (sN : Int) ∧ p < 128 := by
  obtain ⟨j, hj, rfl⟩ := place_in h
  have e1 : (0 : Int) ≤ (sN : Int) * (j : Int) := by exact_mod_cast Nat.zero_le _
  have e2 : sN * j ≤ sN * (hN - 1) := Nat.mul_le_mul_left _ (by omega)
  have e3 : sN * (hN - 1) ≤ 5 * 11 := Nat.mul_le_mul s2 (by omega)
  have e4 : sN * (hN - 1) ≤ hN * sN := by rw [Nat.mul_comm hN]; exact Nat.mul_le_mul_left _ (by omega)
  have e5 : (sN : Int) * (j : Int) = ((sN * j : Nat) : Int) := by push_cast; rfl
  have e6 : (hN : Int) * (sN : Int) = ((hN * sN : Nat) : Int) := by push_cast; rfl
  rw [e5, e6]
  omega
theorem turn_bd {hN sN : Nat} (s1 : 1 ≤ sN) (s2 : sN ≤ 5) (h1 : 1 ≤ hN) (h2 : hN ≤ 12) : 1 ≤ (hN : Int) * (sN : Int) ∧ (hN : Int) * (sN : Int) ≤ 60 := by
  have e6 : (hN : Int) * (sN : Int) = ((hN * sN : Nat) : Int) := by push_cast; rfl
  have e1 : hN * sN ≤ 12 * 5 := Nat.mul_le_mul h2 s2
  have e2 : 1 * 1 ≤ hN * sN := Nat.mul_le_mul h1 s1
  rw [e6]; omega
theorem placesL_len (hN : Nat) (s b : Int) : (placesL hN s b).length = hN := by simp [placesL]
end Mine
end
section -- Kcut
open PySem PySem.W PySem.Calls PyProof.Rows
namespace Mine
section
variable {prog : Program} {w : World} {A : Around} {env : Env} {E : Value → Shared → Prop}
theorem execs_app {l1 l2 : List Stmt} {Q : Flow → Shared → Prop} {s : Shared} (h : wpAny (model prog w) A (execs l1 env) (fun f s' => match f with | .next => wpAny (model prog w) A (execs l2 env) Q E s' | f => Q f s') E s) :
    wpAny (model prog w) A (execs (l1 ++ l2) env) Q E s := by
  intro Γ p hΓ
  have h0 := h Γ p hΓ
  clear h
  revert p s
  induction l1 with
  | nil => intro s p h0; exact (h0 : wpAny (model prog w) A (execs l2 env) Q E s) Γ p hΓ
  | cons st l1 ih =>
    intro s p h0
    rw [execs_cons, Sem.wp_bind'] at h0
    rw [List.cons_append, execs_cons, Sem.wp_bind']
    refine Sem.wp_mono _ Γ _ (fun f p' s' h' => ?_) (fun _ _ _ h' => h') _ _ h0
    cases f with
    | next => exact ih p' h'
    | _ => exact h'
/-- a body cut behind its first n statements, at a state of one's own wording -/
theorem execsCut (n : Nat) (P : Heap → Prop) {body : List Stmt} {Q : Flow → Shared → Prop} {s : Shared}
    (h1 : ∀ Q' : Flow → Shared → Prop, (∀ h tk, P h → Q' .next { s with heap := h, toks := tk }) → wpAny (model prog w) A (execs (body.take n) env) Q' E s)
    (h2 : ∀ h tk, P h → wpAny (model prog w) A (execs (body.drop n) env) Q E { s with heap := h, toks := tk }) : wpAny (model prog w) A (execs body env) Q E s := by
  rw [← List.take_append_drop n body]
  exact execs_app (h1 _ fun h tk p => h2 h tk p)
end
/-- the numbers that a script draws -/
structure Drawn (hN sN : Nat) (b sh lv lt se : Int) : Prop where
  h : 1 ≤ hN ∧ hN ≤ 12
  s : 1 ≤ sN ∧ sN ≤ 5
  b : -50 ≤ b ∧ b ≤ 49
  sh : 1 ≤ sh ∧ sh ≤ 8
  lv : 1 ≤ lv ∧ lv ≤ 8
  lt : 1 ≤ lt ∧ lt ≤ 7
  se : 1 ≤ se ∧ se ≤ 8
abbrev cellI (o : Obj) (z : Int) (u : Tok) : Prop := o.data = Data.cell (some (Value.int z u))
/-- the law's state behind its places -/
structure LawP (g : Heap) (L : Addr) (h : Heap) (hN sN : Nat) (b sh lv lt se : Int) (Mr : Str → Option Value) (D : Addr) (pys : List Value) (o1 o2 o3 o4 o5 o6 o7 o8 : Obj) (u1 u2 u3 u4 u5 u6 u7 : Tok) (x1 : Int) : Prop where
  dr : Drawn hN sN b sh lv lt se
  F : Fr g L h (fun y => if y = Str.ofString "places" then some (.ref D) else Mr y)
  N : News g L h [(D, LCg.lst pys), (L + 1 + 1 + 1 + 1 + 1 + 1 + 1 + 1, o8), (L + 1 + 1 + 1 + 1 + 1 + 1 + 1, o7), (L + 1 + 1 + 1 + 1 + 1 + 1, o6), (L + 1 + 1 + 1 + 1 + 1, o5), (L + 1 + 1 + 1 + 1, o4), (L + 1 + 1 + 1, o3), (L + 1 + 1, o2), (L + 1, o1), (72, tabObj #[]), (65, tabObj #[])]
  P : IntsAre pys (placesL hN sN b)
  d1 : cellI o1 x1 u1
  d2 : cellI o2 sN u2
  d3 : cellI o3 ((hN : Int) * (sN : Int)) u3
  d4 : cellI o4 sh u4
  d5 : cellI o5 lv u5
  d6 : cellI o6 lt u6
  d7 : cellI o7 se u7
  d8 : o8.data = Data.cell none
  ne : D ≠ 65 ∧ D ≠ 72 ∧ D ≠ L + 1 + 1 + 1 + 1 + 1 + 1 + 1 + 1
def LawPE (g : Heap) (L : Addr) (h : Heap) : Prop := ∃ (hN sN : Nat) (b sh lv lt se : Int) (Mr : Str → Option Value) (D : Addr) (pys : List Value) (o1 o2 o3 o4 o5 o6 o7 o8 : Obj) (u1 u2 u3 u4 u5 u6 u7 : Tok) (x1 : Int), LawP g L h hN sN b sh lv lt se Mr D pys o1 o2 o3 o4 o5 o6 o7 o8 u1 u2 u3 u4 u5 u6 u7 x1
theorem lawCut {prog : Program} {w : World} {A : Around} {env : Env} {E : Value → Shared → Prop} {body : List Stmt} {Q : Flow → Shared → Prop} {s : Shared} {g : Heap} {L : Addr} {m : Str → Option Value} (_ : Fr g L s.heap m)
    (h1 : ∀ Q' : Flow → Shared → Prop, (∀ h tk, LawPE g L h → Q' .next { s with heap := h, toks := tk }) → wpAny (model prog w) A (execs (body.take 10) env) Q' E s)
    (h2 : ∀ h tk, LawPE g L h → wpAny (model prog w) A (execs (body.drop 10) env) Q E { s with heap := h, toks := tk }) : wpAny (model prog w) A (execs body env) Q E s := execsCut 10 _ h1 h2
end Mine
end
section -- Kstr
open PySem PySem.W PyProof.Rows
namespace Mine
/-- a text by its signs -/
abbrev txt (l : List Nat) : Str := ⟨l.toArray⟩
section
variable {prog : Program} {w : World} {A : Around} {E : Value → Shared → Prop} {s : Shared} {t u : Tok} {Q : Value → Shared → Prop}
theorem foldl_reps (c : Array Nat) (k : Nat) : ∀ a : Array Nat, ((List.replicate k c).foldl (· ++ ·) a).toList = a.toList ++ (List.replicate k c.toList).flatten := by
  induction k with
  | zero => intro a; simp
  | succ k ih => intro a; rw [List.replicate_succ, List.foldl_cons, ih, List.replicate_succ, List.flatten_cons]; simp
theorem mul_sp (k : Nat) : Txt.mul (Str.ofString " ") (k : Int) = txt (List.replicate k 32) := by
  have e : Str.ofString " " = ⟨#[32]⟩ := by decide +kernel
  rw [e]
  unfold Txt.mul
  by_cases h : (k : Int) < 1
  · have : k = 0 := by omega
    subst this; rfl
  · rw [if_neg h]
    by_cases h1 : k = 1
    · subst h1; rfl
    · rw [if_neg (by simp [Str.length]; omega)]
      refine congrArg Str.mk ?_
      rw [← Array.toList_inj, foldl_reps]
      simp [List.flatten_replicate_singleton]
theorem mulSp {k : Nat} (hk : k ≤ 1000) (h : ∀ t' j, Q (.str (txt (List.replicate k 32)) t') { s with toks := j }) : wpAny (model prog w) A (binaryOp .Mult (.str (Str.ofString " ") t) (.int (k : Int) u)) Q E s := by
  refine KXi.mul (n := 1) (by decide +kernel) (by decide) (by omega) (by omega) fun t' j _ _ => ?_
  rw [mul_sp]; exact h t' j
theorem addS {a b : List Nat} {y : Str} (hy : y = txt b) (hl : a.length + b.length ≤ 100000) (h : ∀ t' j, Q (.str (txt (a ++ b)) t') { s with toks := j }) : wpAny (model prog w) A (binaryOp .Add (.str (txt a) t) (.str y u)) Q E s := by
  subst hy
  refine SB.add (fun t' j => ?_) (by rw [sizeLine_eq]; simp [Str.length]; omega)
  have e : txt a ++ txt b = txt (a ++ b) := by
    show Str.append _ _ = _
    simp [Str.append]
  rw [e]; exact h t' j
theorem foldl_cps : ∀ (ls : List (List Nat)) (a : Array Nat), ((ls.map txt).foldl (fun acc p => acc ++ (#[] : Array Nat) ++ p.cps) a).toList = a.toList ++ ls.flatten
  | [], a => by simp
  | l :: ls, a => by rw [List.map_cons, List.foldl_cons, foldl_cps ls]; simp
theorem join_nil (ls : List (List Nat)) : Txt.join (Str.ofString "") (ls.map txt) = txt ls.flatten := by
  have e0 : Str.ofString "" = ⟨#[]⟩ := by decide +kernel
  rw [e0]
  show Builtin.Str.glued _ _ = _
  unfold Builtin.Str.glued
  cases ls with
  | nil => rfl
  | cons l ls =>
    refine congrArg Str.mk ?_
    rw [← Array.toList_inj]
    have := foldl_cps ls l.toArray
    simpa using this
theorem joinT {D : Addr} {items : Array Value} {ls : List (List Nat)} (hl : s.heap.IsList D items) (hi : StrsAre items.toList (ls.map txt)) (hw : (ls.map (·.length)).sum + ls.length ≤ 1048576)
    (h : ∀ t' k, Q (.str (txt ls.flatten) t') { s with toks := k }) : wpAny (model prog w) A (call (.builtin "str.join") [.str (Str.ofString "") t, .ref D]) Q E s := by
  refine join_listW hl hi (by decide +kernel) ?_ fun t' k => by rw [join_nil]; exact h t' k
  rw [List.map_map, List.length_map]
  exact hw
end
end Mine
end
section -- KloopS
open PySem PySem.W PySem.Calls PyProof.Rows
namespace Mine
section
variable {prog : Program} {w : World} {A : Around} {E E' : Value → Shared → Prop} {s : Shared} {env : Env} {h₀ : Heap} {x : Str} {body : List Stmt} {Q : Flow → Shared → Prop}
theorem push_keep (h : Heap) (o : Obj) : Keep h (h.push o) := fun _ _ e => Heap.get?_push_of_some _ e
/-- a loop over a text's signs, by an invariant -/
theorem loopStr {T : Str} {t : Tok} {m : Str → Option Value} {news : List (Addr × Obj)} (J : Addr → Nat → (Str → Option Value) → List (Addr × Obj) → Prop) (hh : A.handled = none)
    (F : Fr h₀ env.locals s.heap m) (N : News h₀ env.locals s.heap news)
    (J0 : ∀ I, (∀ p ∈ news, p.1 < I) → J I 0 m news) (hJ : ∀ I i m₁ ns, J I i m₁ ns → ∀ p ∈ ns, p.1 ≠ I)
    (turn : ∀ I i c u m₁ news₁ h tk it, i < T.cps.size → T.cps[i]? = some c → J I i m₁ news₁ → Fr h₀ env.locals h (fun y => if y = x then some (.str ⟨#[c]⟩ u) else m₁ y) → News h₀ env.locals h ((I, it) :: news₁) →
      wpAny (model prog w) A (execs body env) (TurnEnd h₀ env.locals I it (J I (i + 1)) { s with heap := h, toks := tk } Q) E { s with heap := h, toks := tk })
    (done : ∀ I m' news' h' tk, J I T.cps.size m' news' → Fr h₀ env.locals h' m' → News h₀ env.locals h' news' → Q .next { s with heap := h', toks := tk }) :
    wpAny (model prog w) A (pyIter (.str T t)) (fun it s₂ => LoopAtV prog w A h₀ env x body Q E it s₂) E' s := by
  have key : ∀ (o : Obj) (St : Nat → Heap → Prop), Walks prog w A s.heap.objs.size [s.heap.objs.size] [s.heap.objs.size] T.cps.size (SignAt T) St → (∀ i h, St i h → ∃ o, h.get? s.heap.objs.size = some o) → St 0 (s.heap.push o) →
      LoopAtV prog w A h₀ env x body Q E (.ref s.heap.objs.size) { s with heap := s.heap.push o } := by
    intro o St W hlive hst
    have kp := push_keep s.heap o
    have hnone : s.heap.get? s.heap.objs.size = none := by
      cases q : s.heap.get? s.heap.objs.size with
      | none => rfl
      | some o' => exact absurd (Heap.lt_size q) (Nat.lt_irrefl _)
    refine loopLit [] (J s.heap.objs.size) W hlive (fun b hb => .inl (List.mem_singleton.mp hb)) ?_ ?_ hst (frKeep F kp) (newsKeep N kp) (J0 _ fun p hp => Heap.lt_size (N p hp).1) (fun i m₁ ns hj => ⟨fun p hp => (by cases hp), hJ _ _ _ _ hj⟩) ?_ ?_
    · intro hm
      have e := List.mem_singleton.mp hm
      obtain ⟨oL, _, _, hL, _⟩ := F.ns
      rw [e, hnone] at hL; cases hL
    · cases q : h₀.get? s.heap.objs.size with
      | none => rfl
      | some o' => have := F.keep _ _ q; rw [hnone] at this; cases this
    · rintro i v m₁ news₁ h tk it hi ⟨c, u, hc, rfl⟩ hj F₁ N₁
      exact turn _ i c u m₁ news₁ h tk it hi hc hj F₁ N₁
    · intro m' news' h' tk hj F' N'
      exact done _ m' news' h' tk hj F' N'
  cases ha : T.cps.all (· < 128)
  · exact wpAny_pyIter_wide ha (key _ _ (Walks.strWide hh _ T t) (fun i h ⟨o, ho, _⟩ => ⟨o, ho⟩) ⟨_, Heap.get?_push_size _ rfl, rfl, rfl⟩)
  · exact wpAny_pyIter_ascii ha (key _ _ (Walks.strAscii hh _ T t) (fun i h ⟨o, ho, _⟩ => ⟨o, ho⟩) ⟨_, Heap.get?_push_size _ rfl, rfl, rfl⟩)
end
theorem map5 (m M0 : Str → Option Value) (a b c d e : Str) (h : ∀ z, z ≠ a → z ≠ b → z ≠ c → z ≠ d → z ≠ e → m z = M0 z) : m = fun z => if z = a then m a else if z = b then m b else if z = c then m c else if z = d then m d else if z = e then m e else M0 z := by
  funext z
  by_cases h1 : z = a
  · rw [if_pos h1, h1]
  · by_cases h2 : z = b
    · rw [if_neg h1, if_pos h2, h2]
    · by_cases h3 : z = c
      · rw [if_neg h1, if_neg h2, if_pos h3, h3]
      · by_cases h4 : z = d
        · rw [if_neg h1, if_neg h2, if_neg h3, if_pos h4, h4]
        · by_cases h5 : z = e
          · rw [if_neg h1, if_neg h2, if_neg h3, if_neg h4, if_pos h5, h5]
          · rw [if_neg h1, if_neg h2, if_neg h3, if_neg h4, if_neg h5, h z h1 h2 h3 h4 h5]
end Mine
end
section -- Klead
theorem Mine.wTopOff28 : True := by w_top off; trivial
local macro_rules | `(tactic| k_ne) => `(tactic| (refine PySem.W.neN ?_; (try dsimp only); first
  | with_reducible assumption
  | ((with_reducible refine Nat.ne_of_lt ?_); (repeat with_reducible refine Mine.nzLT ?_); (first | with_reducible assumption | exact Mine.nzA1 (by with_reducible assumption) | exact Mine.nzA2 (by with_reducible assumption) | exact Mine.nzZ2 (by with_reducible assumption) | exact Mine.nzA3 (by with_reducible assumption) | exact Mine.nzZ3 (by with_reducible assumption) | exact Mine.nzA4 (by with_reducible assumption) | exact Mine.nzZ4 (by with_reducible assumption) | exact Mine.nzA5 (by with_reducible assumption) | exact Mine.nzZ5 (by with_reducible assumption) | exact Mine.nzA6 (by with_reducible assumption) | exact Mine.nzZ6 (by with_reducible assumption) | exact Mine.nzA7 (by with_reducible assumption) | exact Mine.nzZ7 (by with_reducible assumption) | exact Mine.nzA8 (by with_reducible assumption) | exact Mine.nzZ8 (by with_reducible assumption) | exact Mine.nzA9 (by with_reducible assumption) | exact Mine.nzZ9 (by with_reducible assumption) | exact Mine.nzA10 (by with_reducible assumption) | exact Mine.nzZ10 (by with_reducible assumption) | exact Mine.nzA11 (by with_reducible assumption) | exact Mine.nzZ11 (by with_reducible assumption) | exact Mine.nzA12 (by with_reducible assumption) | exact Mine.nzZ12 (by with_reducible assumption) | exact Mine.nzA13 (by with_reducible assumption) | exact Mine.nzZ13 (by with_reducible assumption) | exact Mine.nzA14 (by with_reducible assumption) | exact Mine.nzZ14 (by with_reducible assumption) | exact Mine.nzA15 (by with_reducible assumption) | exact Mine.nzZ15 (by with_reducible assumption) | exact Mine.nzA16 (by with_reducible assumption) | exact Mine.nzZ16 (by with_reducible assumption)))
  | ((with_reducible refine Nat.ne_of_gt ?_); (repeat with_reducible refine Mine.nzLT ?_); (first | with_reducible assumption | exact Mine.nzA1 (by with_reducible assumption) | exact Mine.nzA2 (by with_reducible assumption) | exact Mine.nzZ2 (by with_reducible assumption) | exact Mine.nzA3 (by with_reducible assumption) | exact Mine.nzZ3 (by with_reducible assumption) | exact Mine.nzA4 (by with_reducible assumption) | exact Mine.nzZ4 (by with_reducible assumption) | exact Mine.nzA5 (by with_reducible assumption) | exact Mine.nzZ5 (by with_reducible assumption) | exact Mine.nzA6 (by with_reducible assumption) | exact Mine.nzZ6 (by with_reducible assumption) | exact Mine.nzA7 (by with_reducible assumption) | exact Mine.nzZ7 (by with_reducible assumption) | exact Mine.nzA8 (by with_reducible assumption) | exact Mine.nzZ8 (by with_reducible assumption) | exact Mine.nzA9 (by with_reducible assumption) | exact Mine.nzZ9 (by with_reducible assumption) | exact Mine.nzA10 (by with_reducible assumption) | exact Mine.nzZ10 (by with_reducible assumption) | exact Mine.nzA11 (by with_reducible assumption) | exact Mine.nzZ11 (by with_reducible assumption) | exact Mine.nzA12 (by with_reducible assumption) | exact Mine.nzZ12 (by with_reducible assumption) | exact Mine.nzA13 (by with_reducible assumption) | exact Mine.nzZ13 (by with_reducible assumption) | exact Mine.nzA14 (by with_reducible assumption) | exact Mine.nzZ14 (by with_reducible assumption) | exact Mine.nzA15 (by with_reducible assumption) | exact Mine.nzZ15 (by with_reducible assumption) | exact Mine.nzA16 (by with_reducible assumption) | exact Mine.nzZ16 (by with_reducible assumption)))
  | ((repeat with_reducible refine Mine.nzSS ?_); (first | with_reducible refine Mine.nzS0 ?_ | with_reducible refine Mine.nz0S ?_); (repeat (first | with_reducible exact Nat.le_refl _ | with_reducible refine Mine.nzLS ?_)); done)
  | (first | with_reducible assumption | exact Mine.nzA1 (by with_reducible assumption) | exact Mine.nzA2 (by with_reducible assumption) | exact Mine.nzZ2 (by with_reducible assumption) | exact Mine.nzA3 (by with_reducible assumption) | exact Mine.nzZ3 (by with_reducible assumption) | exact Mine.nzA4 (by with_reducible assumption) | exact Mine.nzZ4 (by with_reducible assumption) | exact Mine.nzA5 (by with_reducible assumption) | exact Mine.nzZ5 (by with_reducible assumption) | exact Mine.nzA6 (by with_reducible assumption) | exact Mine.nzZ6 (by with_reducible assumption) | exact Mine.nzA7 (by with_reducible assumption) | exact Mine.nzZ7 (by with_reducible assumption) | exact Mine.nzA8 (by with_reducible assumption) | exact Mine.nzZ8 (by with_reducible assumption) | exact Mine.nzA9 (by with_reducible assumption) | exact Mine.nzZ9 (by with_reducible assumption) | exact Mine.nzA10 (by with_reducible assumption) | exact Mine.nzZ10 (by with_reducible assumption) | exact Mine.nzA11 (by with_reducible assumption) | exact Mine.nzZ11 (by with_reducible assumption) | exact Mine.nzA12 (by with_reducible assumption) | exact Mine.nzZ12 (by with_reducible assumption) | exact Mine.nzA13 (by with_reducible assumption) | exact Mine.nzZ13 (by with_reducible assumption) | exact Mine.nzA14 (by with_reducible assumption) | exact Mine.nzZ14 (by with_reducible assumption) | exact Mine.nzA15 (by with_reducible assumption) | exact Mine.nzZ15 (by with_reducible assumption) | exact Mine.nzA16 (by with_reducible assumption) | exact Mine.nzZ16 (by with_reducible assumption))
  | (apply Ne.symm; (first | with_reducible assumption | exact Mine.nzA1 (by with_reducible assumption) | exact Mine.nzA2 (by with_reducible assumption) | exact Mine.nzZ2 (by with_reducible assumption) | exact Mine.nzA3 (by with_reducible assumption) | exact Mine.nzZ3 (by with_reducible assumption) | exact Mine.nzA4 (by with_reducible assumption) | exact Mine.nzZ4 (by with_reducible assumption) | exact Mine.nzA5 (by with_reducible assumption) | exact Mine.nzZ5 (by with_reducible assumption) | exact Mine.nzA6 (by with_reducible assumption) | exact Mine.nzZ6 (by with_reducible assumption) | exact Mine.nzA7 (by with_reducible assumption) | exact Mine.nzZ7 (by with_reducible assumption) | exact Mine.nzA8 (by with_reducible assumption) | exact Mine.nzZ8 (by with_reducible assumption) | exact Mine.nzA9 (by with_reducible assumption) | exact Mine.nzZ9 (by with_reducible assumption) | exact Mine.nzA10 (by with_reducible assumption) | exact Mine.nzZ10 (by with_reducible assumption) | exact Mine.nzA11 (by with_reducible assumption) | exact Mine.nzZ11 (by with_reducible assumption) | exact Mine.nzA12 (by with_reducible assumption) | exact Mine.nzZ12 (by with_reducible assumption) | exact Mine.nzA13 (by with_reducible assumption) | exact Mine.nzZ13 (by with_reducible assumption) | exact Mine.nzA14 (by with_reducible assumption) | exact Mine.nzZ14 (by with_reducible assumption) | exact Mine.nzA15 (by with_reducible assumption) | exact Mine.nzZ15 (by with_reducible assumption) | exact Mine.nzA16 (by with_reducible assumption) | exact Mine.nzZ16 (by with_reducible assumption)))
  | omega))
local macro_rules | `(tactic| k_lt $h:ident) => `(tactic| (replace $h := Mine.allLt1 $h; dsimp only [Mine.AllLt1, Mine.AllLtC] at $h:ident))
open PySem PySem.W PyProof.Rows
namespace Mine
set_option Elab.async false
local macro_rules | `(tactic| walk_at "eval ListComp") => `(tactic| (k_here; k_dflt (refine LCg.ListComp_U (F₀ := by k_asm) (by rfl) (by decide) (by rfl) (by decide) (by rfl) ?_)))
local macro_rules | `(tactic| walk_at "CompSrc") => `(tactic| (k_here; k_dflt (refine LCg.CompSrc.base (by rfl) (by k_asm) (by k_asm) (by assumption) (by assumption) ?_; intro g')))
local macro_rules | `(tactic| walk_at "binaryOp Mult str int") => `(tactic| (k_here; (refine mulSp (by omega) ?_); intro _ _))
local macro_rules | `(tactic| walk_at "binaryOp Add str str") => `(tactic| (k_here; (first | refine addS (b := [9]) (by decide +kernel) (by (try simp only [List.length_replicate, List.length_append, List.length_cons, List.length_nil]); omega) ?_ | refine addS (b := [10, 9, 32]) (by decide +kernel) (by (try simp only [List.length_replicate, List.length_append, List.length_cons, List.length_nil]); omega) ?_ | refine addS rfl (by (try simp only [List.length_replicate, List.length_append, List.length_cons, List.length_nil]); omega) ?_); intro _ _))
local macro_rules | `(tactic| walk_at "call ref") => `(tactic| (k_here; k_dflt (refine' call_cls ?k1 ?k2 ?k3 ?k4 ?k5 ?k6 ?_; (case k1 => k_asm); (case k2 => k_asm); (case k3 => k_asm); (case k4 => k_is); (case k5 => k_is); (case k6 => k_is); k_whole; intro x' d' h' F' N' l1 l2; (try k_lt l1); (try k_lt2 l2); (try k_sweep); (refine' code_def ?k1 ?k2 ?k3 ?k4 ?k5 ?kA ?kF ?kK ?k6 ?k7 ?k8 ?k9 ?kB ?_ ?c2 ?c3 ?c4 ?c5; (case kA => exact rfl); (case kF => exact rfl); (case kK => exact rfl); (case k1 => k_asm); (case k2 => k_asm); (case k3 => k_asm); (case k4 => k_asm); (case k5 => k_asm); (case k6 => k_is); (case k7 => k_is); (case k8 => ktr_room); (case k9 => exact BindsTo.of_eq rfl); (case c5 => decide); (case kB => exact locs rfl); (case c2 => exact rfl); (case c3 => exact rfl); (case c4 => exact rfl); k_whole; intro g' L' h' FG' F' N' B' X' T'; (try dsimp only); (try k_lift B'); (try k_fold)))))
local macro_rules | `(tactic| walk_at "call type:tuple") => `(tactic| (k_here; (with_reducible show wpAny _ _ (call (Value.type _) [Value.ref _]) _ _ _); k_dflt (refine' kde_tupleOf ?k1 ?k2 ?k3 ?k4 ?k5 ?_; (case k1 => k_asm); (case k2 => k_asm); (case k3 => exact News.isList (by k_asm) (by k_mem)); (case k4 => simp only [List.size_toArray]; omega); (case k5 => exact rfl); k_whole); intro D' h' F' N' l1; (try k_lt l1); (try k_sweep)))
theorem castI {vs : List Value} {a b : List Int} (h : IntsAre vs a) (e : a = b) : IntsAre vs b := e ▸ h
abbrev tupR (D : Addr) (x : Int) (t : Tok) : Obj := { cls := Value.type "tuple", data := Data.seq #[Value.ref D, Value.int x t] }
abbrev tupL (xs : List Value) : Obj := { cls := Value.type "tuple", data := Data.seq xs.toArray }
/-- the members of a Whitespace -/
abbrev wsDict (w : World) (T : Str) (n nt : Int) (D : Addr) (b : Bool) (k1 k2 k3 k4 k5 t0 tn tt : Tok) : Obj :=
  dictOf [{ hash := PyData.keyHash w.params (Str.ofString "raw"), key := Value.str (Str.ofString "raw") k1, val := Value.str T t0 },
    { hash := PyData.keyHash w.params (Str.ofString "n"), key := Value.str (Str.ofString "n") k2, val := Value.int n tn },
    { hash := PyData.keyHash w.params (Str.ofString "nt"), key := Value.str (Str.ofString "nt") k3, val := Value.int nt tt },
    { hash := PyData.keyHash w.params (Str.ofString "norm"), key := Value.str (Str.ofString "norm") k4, val := Value.ref D },
    { hash := PyData.keyHash w.params (Str.ofString "is_simple"), key := Value.str (Str.ofString "is_simple") k5, val := Value.bool b }] 5
abbrev ltA (a b : Nat) : Prop := @LT.lt Nat instLTNat a b
/-- what the reading loop keeps -/
def WsJ (M0 : Str → Option Value) (Rt : List (Addr × Obj)) (D2 x1 d1 D1 I : Addr) (st : WS) (m : Str → Option Value) (ns : List (Addr × Obj)) : Prop :=
  ∃ (C : Addr) (xs : List Value) (e : Nat) (tb tn tt : Tok), (∀ z, z ≠ Str.ofString "ch" → z ≠ Str.ofString "count" → z ≠ Str.ofString "b" → z ≠ Str.ofString "n" → z ≠ Str.ofString "nt" → m z = M0 z) ∧
    m (Str.ofString "count") = some (.ref C) ∧ m (Str.ofString "b") = some (.int (st.b : Int) tb) ∧ m (Str.ofString "n") = some (.int (st.n : Int) tn) ∧ m (Str.ofString "nt") = some (.int (st.nt : Int) tt) ∧
    ns = (C, W.listOf xs.toArray e) :: Rt ∧ IntsAre xs st.cnt ∧ (ltA D2 C ∧ ltA x1 C ∧ ltA d1 C ∧ ltA D1 C) ∧ (ltA D2 I ∧ ltA x1 I ∧ ltA d1 I ∧ ltA D1 I) ∧ @Ne Nat C I
theorem WsJ.mk' {M0 : Str → Option Value} {Rt : List (Addr × Obj)} {D2 x1 d1 D1 I : Addr} {st : WS} {m : Str → Option Value} {C : Addr} {xs : List Value} {e : Nat} {tb tn tt : Tok} {b n nt : Int}
    (hm : ∀ z, z ≠ Str.ofString "ch" → z ≠ Str.ofString "count" → z ≠ Str.ofString "b" → z ≠ Str.ofString "n" → z ≠ Str.ofString "nt" → m z = M0 z) (hc : m (Str.ofString "count") = some (.ref C)) (hb : m (Str.ofString "b") = some (.int b tb)) (hn : m (Str.ofString "n") = some (.int n tn)) (ht : m (Str.ofString "nt") = some (.int nt tt))
    (eb : b = (st.b : Int)) (en : n = (st.n : Int)) (et : nt = (st.nt : Int)) (hX : IntsAre xs st.cnt) (lC : ltA D2 C ∧ ltA x1 C ∧ ltA d1 C ∧ ltA D1 C) (lI : ltA D2 I ∧ ltA x1 I ∧ ltA d1 I ∧ ltA D1 I) (nI : @Ne Nat C I) : WsJ M0 Rt D2 x1 d1 D1 I st m ((C, W.listOf xs.toArray e) :: Rt) := by
  subst eb en et
  exact ⟨C, xs, e, tb, tn, tt, hm, hc, hb, hn, ht, rfl, hX, lC, lI, nI⟩
theorem turnNext {h₀ h' : Heap} {L I : Addr} {it : Obj} {Jn : (Str → Option Value) → List (Addr × Obj) → Prop} {s : Shared} {tk : Nat} {Q : Flow → Shared → Prop} {m : Str → Option Value} {nsA ns : List (Addr × Obj)} (F : Fr h₀ L h' m) (N : News h₀ L h' nsA) (hj : Jn m ns) (sub : News h₀ L h' nsA → News h₀ L h' ((I, it) :: ns)) :
    TurnEnd h₀ L I it Jn s Q .next { s with heap := h', toks := tk } := ⟨h', tk, m, ns, rfl, F, sub N, hj⟩
theorem nameTl {P : Prop} {h₀ h : Heap} {L : Addr} {p : Addr × Obj} {r : List (Addr × Obj)} (_ : News h₀ L h (p :: r)) (k : ∀ r', r = r' → P) : P := k r rfl
set_option maxRecDepth 100000 in
set_option maxHeartbeats 8000000 in
set_option pp.deepTerms false in
set_option pp.maxSteps 6000 in
theorem lead_spec (w : World) (D : Addr) (vs : Array Value) (ks : List Nat) (tail : Nat) (t1 : Tok) :
    CtrK w 12 120 181 [.ref D, .int (tail : Int) t1] (fun h => h.IsList D vs ∧ IntsAre vs.toList (ks.map (Int.ofNat)) ∧ ks.length ≤ 20 ∧ ks.sum ≤ 60 ∧ tail ≤ 20)
      (fun s Q => ∀ (x dx nn nc : Addr) (xs : List Value) (T : Str) (k1 k2 k3 k4 k5 t0 tn tt tb : Tok) (hz : Heap) (tz : Nat), Keep s.heap hz → s.heap.get? x = none → s.heap.get? dx = none → s.heap.get? nn = none → s.heap.get? nc = none →
        hz.get? x = some (instObj 153 dx) → hz.get? dx = some (wsDict w T ((ks.sum + ks.length + tail : Nat) : Int) ((ks.length : Nat) : Int) nn (decide (((cntOf ks).length : Int) ≤ 1)) k1 k2 k3 k4 k5 t0 tn tt) → hz.get? nn = some (tupR nc (tail : Int) tb) → hz.get? nc = some (tupL xs) → IntsAre xs (cntOf ks) →
        (ltA dx x ∧ ltA x nc ∧ ltA nc nn) → Q (.ref x) { s with heap := hz, toks := tz }) := by
  dsimp only [CtrK, P0, LS]
  k_fill
  intro mean mg mb dp un gd cn cs a ccd cl outer A₀ base h₀ L m s Q E B F X T hk hpre hdp hun hret
  obtain ⟨hL, hI, hlen, hks, htl⟩ := hpre
  have hvl : vs.size = ks.length := by have := hI.length; simpa using this
  have hsz : vs.size ≤ sizeLine := by rw [sizeLine_eq]; omega
  refine wpAny_call ?_
  k_dflt (refine' enterP ?k1 ?k2 ?k3 ?k5 ?kA ?kF ?kK ?k6 ?k7 ?k8 ?k9 ?kB ?_ ?c2 ?c3 ?c4 ?c5; (case kA => exact rfl); (case kF => exact rfl); (case kK => assumption); (case k1 => k_asm); (case k2 => k_asm); (case k3 => k_asm); (case k5 => k_asm); (case k6 => k_is); (case k7 => k_is); (case k8 => ktr_room); (case k9 => exact BindsTo.of_eq rfl); (case c5 => decide); (case kB => exact locs rfl); (case c2 => exact rfl); (case c3 => exact rfl); (case c4 => exact rfl); k_whole; intro L' h' F' N' B' X' T'; (try dsimp only); (try k_lift B'); (try k_fold))
  k_steps
  (with_reducible rename News _ _ _ _ => kN)
  refine compInv (fun i ys nw => nw = _ ∧ StrsAre ys (((ks.take i).map fun k => List.replicate k 32 ++ [9]).map txt)) ⟨rfl, .nil⟩ ?_ ?_
  · intro i ys nw v I oI C oC D m₂ h tk E' hi hInv hP hC hx F N off ne
    obtain ⟨rfl, hS⟩ := hInv
    have off0 := off
    obtain ⟨x, tv, rfl, hx1⟩ := IntsAre.at hI i v (by simpa using hP)
    obtain ⟨k, hk1, rfl⟩ : ∃ k, ks[i]? = some k ∧ (k : Int) = x := by simpa using hx1
    have hk20 : k ≤ 60 := Nat.le_trans (mem_le_sum (List.mem_of_getElem? hk1)) hks
    k_steps
    (with_reducible rename Fr _ _ _ _ => zF)
    (with_reducible rename News _ _ _ _ => zN)
    rw [List.take_add_one, hk1]
    simpa using StrsAre.append' hS (.cons _ _ .nil)
  · rintro ys nw ⟨rfl, hS⟩
    rw [hvl, List.take_length] at hS
    obtain ⟨hfl, hfs⟩ := leadTxt_len ks
    k_steps
    k_here
    refine joinT (by is_list) hS (by rw [hfs, List.length_map]; omega) ?_
    intro _ _
    have hWm : ∀ c ∈ leadTxt ks, c = 32 ∨ c = 9 := fun c => leadTxt_mem
    have hWs := lead_all ks tail
    have hW : List.flatten (ks.map fun k => List.replicate k 32 ++ [9]) = leadTxt ks := (List.flatMap_def ..).symm
    rw [hW]
    generalize leadTxt ks = Wt at *
    k_steps
    (with_reducible rename Fr _ _ _ _ => kF)
    (with_reducible rename News _ _ _ _ => kN)
    rename_i ek0 tkA gA D1 hA tkB oT t3 kB t2 j2 ta j1 t0 j0 x1 d1 hB FB NB l1 l2 gB L1 hC FC BC XC TC tkC hD D2 hE l3 hF hG hH tkD D3 hI9 l4 hJ9 hK9 hL9 hM9
    refine nameFr kF (fun M0 hM0 kF => ?_)
    refine nameTl kN (fun Rt hRt => ?_)
    refine loopStr (fun I i m₁ ns => WsJ M0 Rt D2 x1 d1 D1 I (wsAt (Wt ++ List.replicate tail 32) i) m₁ ns ∧ i ≤ Wt.length + tail) rfl kF kN ?g1 ?g2 ?g3 ?g4
    case g1 =>
      intro I hI0
      k_lt hI0
      subst hRt
      rw [wsAt_zero]
      refine ⟨WsJ.mk' (xs := []) (fun _ _ _ _ _ _ => rfl) (by rw [← hM0]; rfl) (by rw [← hM0]; rfl) (by rw [← hM0]; rfl) (by rw [← hM0]; rfl) rfl rfl rfl .nil l4 hI0.2 (Nat.ne_of_lt hI0.1), Nat.zero_le _⟩
    case g2 =>
      rintro I i m₁ ns ⟨⟨C, xs, e, tb, tn, tt, -, -, -, -, -, rfl, -, lC, lI, nI⟩, -⟩ p hp
      subst hRt
      simp only [List.mem_cons, List.not_mem_nil, or_false] at hp
      rcases hp with rfl | rfl | rfl | rfl | rfl
      · exact nI
      · exact Nat.ne_of_lt lI.1
      · exact Nat.ne_of_lt lI.2.1
      · exact Nat.ne_of_lt lI.2.2.1
      · exact Nat.ne_of_lt lI.2.2.2
    case g3 =>
      intro I i c u m₁ news₁ hh tkk it hi hc hJ F N
      obtain ⟨⟨C, xs, e, tb, tn, tt, hm, hmc, hmb, hmn, hmt, rfl, hX, lC, lI, nI⟩, hiM⟩ := hJ
      have em := map5 _ _ _ _ _ _ _ hm
      rw [hmc, hmb, hmn, hmt] at em
      generalize m₁ (Str.ofString "ch") = vc at em
      subst em
      clear hm hmc hmb hmn hmt
      have hc' : (Wt ++ List.replicate tail 32 ++ [10, 9, 32])[i]? = some c := by simpa using hc
      have hlenW : (Wt ++ List.replicate tail 32).length = Wt.length + tail := by simp
      have hlw := wsAt_len (Wt ++ List.replicate tail 32) i (by omega)
      have hxl := hX.length
      have nI2 : @Ne Nat I C := Ne.symm nI
      rcases lead_at hWm hc' hiM with ⟨hi1, hc1 | hc1, hc2⟩ | ⟨hi1, hc1⟩
      · subst hc1
        have hst := wsAt_succ hc2
        rw [hst]
        clear hst
        generalize hws : wsAt (Wt ++ List.replicate tail 32) i = ws at *
        generalize hJn : (fun m₁ ns => WsJ M0 Rt D2 x1 d1 D1 I (ws.step 32) m₁ ns ∧ i + 1 ≤ Wt.length + tail) = Jn
        generalize hM1 : M0 = M1 at hJn
        generalize hR1 : Rt = R1 at hJn
        subst hM0 hRt
        dsimp only [ltA] at lC lI
        clear kF kN
        k_steps
        (with_reducible rename Fr _ _ _ _ => zF)
        (with_reducible rename News _ _ _ _ => zN)
        subst hJn hM1 hR1
        refine turnNext zF zN ⟨WsJ.mk' (fun z n1 n2 n3 n4 n5 => ?_) rfl rfl rfl rfl rfl rfl rfl hX lC lI nI, by omega⟩ id
        simp only [if_neg n1, if_neg n2, if_neg n3, if_neg n4, if_neg n5]
      · subst hc1
        have hst := wsAt_succ hc2
        rw [hst]
        clear hst
        generalize hws : wsAt (Wt ++ List.replicate tail 32) i = ws at *
        generalize hJn : (fun m₁ ns => WsJ M0 Rt D2 x1 d1 D1 I (ws.step 9) m₁ ns ∧ i + 1 ≤ Wt.length + tail) = Jn
        generalize hM1 : M0 = M1 at hJn
        generalize hR1 : Rt = R1 at hJn
        subst hM0 hRt
        dsimp only [ltA] at lC lI
        clear kF kN
        k_steps
        · (with_reducible rename Fr _ _ _ _ => zF)
          (with_reducible rename News _ _ _ _ => zN)
          subst hJn hM1 hR1
          rename_i lz _ _ _ hiz _ _ _
          refine turnNext zF zN ⟨WsJ.mk' (e := 0) (fun z n1 n2 n3 n4 n5 => ?_) rfl rfl rfl rfl rfl rfl rfl (castI hiz ?_) lz.2.2.2.2 lI (Nat.ne_of_gt lz.2.2.1), by omega⟩ fun hN => cb_drop hN ?_
          · simp only [if_neg n1, if_neg n2, if_neg n3, if_neg n4, if_neg n5]
          · have hge : ws.b ≥ ws.cnt.length := by omega
            have e1 : (↑ws.b - ↑ws.cnt.length + 1 : Int).toNat = ws.b - ws.cnt.length + 1 := by omega
            rw [e1, Int.toNat_natCast, List.flatten_replicate_singleton]
            simp only [WS.step, bump, if_pos hge, show (9 : Nat) ≠ 32 by decide, if_false]
          · kcj_all
        · (with_reducible rename Fr _ _ _ _ => zF)
          (with_reducible rename News _ _ _ _ => zN)
          subst hJn hM1 hR1
          rename_i hiz _ _ _
          refine turnNext zF zN ⟨WsJ.mk' (e := e) (fun z n1 n2 n3 n4 n5 => ?_) rfl rfl rfl rfl rfl rfl rfl (castI hiz ?_) lC lI nI, by omega⟩ fun hN => cb_drop hN ?_
          · simp only [if_neg n1, if_neg n2, if_neg n3, if_neg n4, if_neg n5]
          · have hge : ¬ ws.b ≥ ws.cnt.length := by omega
            rw [Int.toNat_natCast]
            simp only [WS.step, bump, if_neg hge, show (9 : Nat) ≠ 32 by decide, if_false]
          · kcj_all
      · subst hc1
        have hall : wsAt (Wt ++ List.replicate tail 32) i = ⟨cntOf ks, tail, ks.sum + ks.length + tail, ks.length⟩ := by
          unfold wsAt
          rw [List.take_of_length_le (by omega), hWs]
        rw [hall] at F hX hlw hxl
        dsimp only at hX hlw hxl
        generalize hJn : (fun m₁ ns => WsJ M0 Rt D2 x1 d1 D1 I (wsAt (Wt ++ List.replicate tail 32) (i + 1)) m₁ ns ∧ i + 1 ≤ Wt.length + tail) = Jn
        clear hJn
        subst hM0 hRt
        dsimp only [ltA] at lC lI
        clear kF kN
        k_steps
        dsimp only [TurnEnd]
        k_steps
        (with_reducible rename Fr s.heap _ _ _ => zF)
        (with_reducible rename News s.heap _ _ _ => zN)
        rename_i lzA _ _ lz2 _ _ _ _ _ _ _
        have z1 := zN _ (.head _)
        have z2 := zN _ (.tail _ (.head _))
        have z3 := zN _ (.tail _ (.tail _ (.tail _ (.tail _ (.tail _ (.head _))))))
        have z4 := zN _ (.tail _ (.tail _ (.tail _ (.tail _ (.tail _ (.tail _ (.head _)))))))
        exact hret _ _ _ _ _ _ _ _ _ _ _ _ _ _ _ _ _ zF.keep z3.2.2 z4.2.2 z1.2.2 z2.2.2 z3.1 z4.1 z1.1 z2.1 hX ⟨l2, lzA.2.2.2.1, lz2.1⟩
    case g4 =>
      rintro I m' news' h' tk ⟨-, hbad⟩
      simp at hbad
      omega
end Mine
end
section -- KeqN
open PySem PySem.W PyProof.Rows PyProof.V PySem.Spec PySem.SeqAt
namespace Mine
theorem reads_norm {h : Heap} {nn nc : Addr} {xs : List Value} {c : List Int} {tail : Int} {tb : Tok} (h1 : h.get? nn = some (tupR nc tail tb)) (h2 : h.get? nc = some (tupL xs)) (hi : IntsAre xs c) :
    Reads h (.ref nn) (.tuple [.tuple (c.map PyData.int), .int tail]) [] := by
  refine Reads.tuple (as := []) h1 rfl rfl ?_
  have r1 : Reads h (.ref nc) (.tuple (c.map PyData.int)) [] := Reads.tuple h2 rfl rfl (by simpa using readsAll_of_ints hi)
  exact ReadsAll.cons (as := []) (bs := []) r1 (ReadsAll.cons (as := []) (bs := []) (Reads.int _ _) .nil)
theorem shaped_norm (c : List Int) (t : Int) : shaped (.tuple [.tuple (c.map PyData.int), .int t]) = true := by
  have h1 := W.depthAll_ints c
  have h2 : PyData.depth (.tuple [.tuple (c.map PyData.int), .int t]) ≤ 64 := by simp only [PyData.depth, PyData.depthAll]; omega
  show (PyData.canLay0 _ && decide (PyData.depth (.tuple [.tuple (c.map PyData.int), .int t]) ≤ 64)) = true
  rw [Bool.and_eq_true]
  exact ⟨by simp only [PyData.canLay0, PyData.canLayAll0, canLayAll0_ints, Bool.and_self], decide_eq_true h2⟩
theorem same_norm (c d : List Int) (t u : Int) : Spec.same (.tuple [.tuple (c.map PyData.int), .int t]) (.tuple [.tuple (d.map PyData.int), .int u]) = decide (c = d ∧ t = u) := by
  simp only [Spec.same, Spec.sameAll, W.same_ints, Bool.and_true]
  by_cases h1 : c = d <;> by_cases h2 : t = u <;> simp [h1, h2]
theorem mix_norm (c d : List Int) (t u : Int) : noMix (.tuple [.tuple (c.map PyData.int), .int t]) (.tuple [.tuple (d.map PyData.int), .int u]) = true := by
  simp only [noMix, noMixAll, noMix_ints, Bool.and_self]
section
variable {prog : Program} {w : World} {A : Around} {E : Value → Shared → Prop} {s : Shared} {nn nc nn' nc' : Addr} {xs xs' : List Value} {c c' : List Int} {tail tail' : Int} {tb tb' : Tok} {Q : Value → Shared → Prop} {h₀ : Heap} {L : Addr} {news : List (Addr × Obj)}
theorem eq_norm (N : News h₀ L s.heap news) (h1 : (nn, tupR nc tail tb) ∈ news) (h2 : (nc, tupL xs) ∈ news) (h1' : (nn', tupR nc' tail' tb') ∈ news) (h2' : (nc', tupL xs') ∈ news) (hi : IntsAre xs c) (hi' : IntsAre xs' c') (hu : A.units + 64 < cLine)
    (h : Q (.bool (decide (c = c' ∧ tail = tail'))) s) : wpAny (model prog w) A (compareOp .Eq (.ref nn) (.ref nn')) Q E s :=
  eq_dataH_same (reads_norm (N _ h1).1 (N _ h2).1 hi) (reads_norm (N _ h1').1 (N _ h2').1 hi') (shaped_norm ..) (shaped_norm ..) hu (mix_norm ..) (by rw [same_norm]; exact h)
theorem ne_norm (N : News h₀ L s.heap news) (h1 : (nn, tupR nc tail tb) ∈ news) (h2 : (nc, tupL xs) ∈ news) (h1' : (nn', tupR nc' tail' tb') ∈ news) (h2' : (nc', tupL xs') ∈ news) (hi : IntsAre xs c) (hi' : IntsAre xs' c') (hu : A.units + 64 < cLine)
    (h : Q (.bool (!decide (c = c' ∧ tail = tail'))) s) : wpAny (model prog w) A (compareOp .NotEq (.ref nn) (.ref nn')) Q E s :=
  ne_dataH_same (reads_norm (N _ h1).1 (N _ h2).1 hi) (reads_norm (N _ h1').1 (N _ h2').1 hi') (shaped_norm ..) (shaped_norm ..) hu (mix_norm ..) (by rw [same_norm]; exact h)
end
end Mine
end
section -- KloopR
open PySem PySem.W PySem.Calls PyProof.Rows
namespace Mine
section
variable {prog : Program} {w : World} {A : Around} {E E' E'' : Value → Shared → Prop} {s : Shared} {env : Env} {h₀ : Heap} {x : Str} {body : List Stmt} {Q : Flow → Shared → Prop}
theorem rs_one (a b : Int) : Builtin.Range.rangeSize a b 1 = ((b - a).toNat : Int) := by
  unfold Builtin.Range.rangeSize
  (repeat' split) <;> simp_all <;> omega
theorem rs_small {a b : Int} (h0 : 0 ≤ a) (h1 : a ≤ 1000) (h2 : 0 ≤ b) (h3 : b ≤ 1000) : Builtin.Range.small a b 1 = true := by
  unfold Builtin.Range.small
  rw [rs_one]
  unfold Builtin.Range.rangeFitsLong
  simp
  omega
/-- a loop over range(a, b), by an invariant -/
theorem loopRange {a b : Int} {t u : Tok} {m : Str → Option Value} {news : List (Addr × Obj)} (J : Addr → Nat → (Str → Option Value) → List (Addr × Obj) → Prop) (hh : A.handled = none)
    (F : Fr h₀ env.locals s.heap m) (N : News h₀ env.locals s.heap news) (h0 : 0 ≤ a) (h1 : a ≤ 1000) (h2 : 0 ≤ b) (h3 : b ≤ 1000)
    (J0 : ∀ I, (∀ p ∈ news, p.1 < I) → J I 0 m news) (hJ : ∀ I i m₁ ns, J I i m₁ ns → ∀ p ∈ ns, p.1 ≠ I)
    (turn : ∀ I i u m₁ news₁ h tk it, i < (b - a).toNat → J I i m₁ news₁ → Fr h₀ env.locals h (fun y => if y = x then some (.int (a + (i : Nat)) u) else m₁ y) → News h₀ env.locals h ((I, it) :: news₁) →
      wpAny (model prog w) A (execs body env) (TurnEnd h₀ env.locals I it (J I (i + 1)) { s with heap := h, toks := tk } Q) E { s with heap := h, toks := tk })
    (done : ∀ I m' news' h' tk, J I (b - a).toNat m' news' → Fr h₀ env.locals h' m' → News h₀ env.locals h' news' → Q .next { s with heap := h', toks := tk }) :
    wpAny (model prog w) A (call (.type "range") [.int a t, .int b u]) (fun r s₁ => wpAny (model prog w) A (pyIter r) (fun it s₂ => LoopAtV prog w A h₀ env x body Q E it s₂) E' s₁) E'' s := by
  refine range2_rows F N fun h₁ tk₁ t₁ u₁ v₁ hr F₁ N₁ kp₁ => ?_
  refine wpAny_pyIter_range hr (rs_small h0 h1 h2 h3) ?_
  rw [rs_one]
  have kp := push_keep h₁ { cls := .type "range_iterator", data := .fields #[rawInt a, rawInt ((b - a).toNat : Int), rawInt 1] }
  have hnone : h₁.get? h₁.objs.size = none := by
    cases q : h₁.get? h₁.objs.size with
    | none => rfl
    | some o' => exact absurd (Heap.lt_size q) (Nat.lt_irrefl _)
  refine loopLit [] (J h₁.objs.size) (Walks.range hh _ a 1 (b - a).toNat) (fun i h hst => ⟨_, hst⟩) (fun b hb => .inl (List.mem_singleton.mp hb)) ?_ ?_ ?_ (frKeep F₁ kp) (newsKeep N₁ kp) (J0 _ fun p hp => Heap.lt_size (N₁ p hp).1) (fun i m₁ ns hj => ⟨fun p hp => (by cases hp), hJ _ _ _ _ hj⟩) ?_ ?_
  · intro hm
    have e := List.mem_singleton.mp hm
    obtain ⟨oL, _, _, hL, _⟩ := F₁.ns
    rw [e, hnone] at hL; cases hL
  · cases q : h₀.get? h₁.objs.size with
    | none => rfl
    | some o' => have := F₁.keep _ _ q; rw [hnone] at this; cases this
  · dsimp only
    have := Heap.get?_push_size h₁ (o := { cls := .type "range_iterator", data := .fields #[rawInt a, rawInt ((b - a).toNat : Int), rawInt 1] }) rfl
    simpa using this
  · rintro i v m₁ news₁ h tk it hi ⟨u, rfl⟩ hj F₁ N₁
    rw [Int.mul_one] at F₁
    exact turn _ i u m₁ news₁ h tk it hi hj F₁ N₁
  · intro m' news' h' tk hj F' N'
    exact done _ m' news' h' tk hj F' N'
end
theorem map2 (m M0 : Str → Option Value) (a b : Str) (h : ∀ z, z ≠ a → z ≠ b → m z = M0 z) : m = fun z => if z = a then m a else if z = b then m b else M0 z := by
  funext z
  by_cases h1 : z = a
  · rw [if_pos h1, h1]
  · by_cases h2 : z = b
    · rw [if_neg h1, if_pos h2, h2]
    · rw [if_neg h1, if_neg h2, h z h1 h2]
end Mine
end
section -- Kind
theorem Mine.wTopOff29 : True := by w_top off; trivial
local macro_rules | `(tactic| walk_at "no such line") => `(tactic| fail)
local macro_rules | `(tactic| walk_at "no such line") => `(tactic| fail)
local macro_rules | `(tactic| walk_at "no such line") => `(tactic| fail)
local macro_rules | `(tactic| walk_at "no such line") => `(tactic| fail)
local macro_rules | `(tactic| walk_at "no such line") => `(tactic| fail)
local macro_rules | `(tactic| walk_at "no such line") => `(tactic| fail)
local macro_rules | `(tactic| walk_at "no such line") => `(tactic| fail)
local macro_rules | `(tactic| walk_at "no such line") => `(tactic| fail)
local macro_rules | `(tactic| walk_at "no such line") => `(tactic| fail)
local macro_rules | `(tactic| walk_at "no such line") => `(tactic| fail)
local macro_rules | `(tactic| walk_at "no such line") => `(tactic| fail)
local macro_rules | `(tactic| walk_at "no such line") => `(tactic| fail)
local macro_rules | `(tactic| walk_at "no such line") => `(tactic| fail)
local macro_rules | `(tactic| walk_at "no such line") => `(tactic| fail)
local macro_rules | `(tactic| walk_at "no such line") => `(tactic| fail)
local macro_rules | `(tactic| walk_at "no such line") => `(tactic| fail)
local macro_rules | `(tactic| walk_at "no such line") => `(tactic| fail)
local macro_rules | `(tactic| walk_at "no such line") => `(tactic| fail)
local macro_rules | `(tactic| walk_at "no such line") => `(tactic| fail)
local macro_rules | `(tactic| walk_at "no such line") => `(tactic| fail)
local macro_rules | `(tactic| walk_at "no such line") => `(tactic| fail)
local macro_rules | `(tactic| walk_at "no such line") => `(tactic| fail)
local macro_rules | `(tactic| walk_at "no such line") => `(tactic| fail)
local macro_rules | `(tactic| walk_at "no such line") => `(tactic| fail)
local macro_rules | `(tactic| walk_at "no such line") => `(tactic| fail)
local macro_rules | `(tactic| walk_at "eval BinOp") => `(tactic| (k_here; k_dflt (refine' Mine.pev_ok ?F ?e ?c ?k ?_; (case F => k_asm); (case e => exact rfl); (case c => (repeat (first | exact trivial | refine And.intro (by mul_fits) ?_))); (case k => rfl); k_whole)))
local macro_rules | `(tactic| walk_at "spliced") => `(tactic| (k_here; k_dflt (refine' Mine.args_ok ?F ?k ?e ?c ?_; (case F => k_asm); (case k => rfl); (case e => exact rfl); (case c => (repeat (first | exact trivial | refine And.intro (by mul_fits) ?_))); k_whole)))
local macro_rules | `(tactic| walk_at "isTrue Compare") => `(tactic| (k_here; k_dflt (refine' Mine.cmp_ok ?F ?e ?c ?k ?n ?_; (case F => k_asm); (case e => exact rfl); (case c => (repeat (first | exact trivial | refine And.intro (by mul_fits) ?_))); (case k => rfl); (case n => rfl); k_whole)))
local macro_rules | `(tactic| walk_at "exec Assign") => `(tactic| (k_here; k_dflt (refine' Mine.assign_ok0 ?F ?N ?e ?c ?k ?x ?s ?_; (case F => k_asm); (case N => k_asm); (case e => exact rfl); (case c => (repeat (first | exact trivial | refine And.intro (by mul_fits) ?_))); (case k => rfl); (case x => rfl); (case s => rfl); k_whole; intro h' F' N'; (try k_sweep))))
local macro_rules | `(tactic| walk_at "exec Return some") => `(tactic| (k_here; k_dflt (refine' Mine.ret_ok ?F ?e ?c ?k ?_; (case F => k_asm); (case e => exact rfl); (case c => (repeat (first | exact trivial | refine And.intro (by mul_fits) ?_))); (case k => rfl); k_whole)))
local macro_rules | `(tactic| k_steps) => `(tactic| repeat' (first | dsimp only | (k_unfold; (try dsimp only)) | (k_end; wrow_close) | walk1 | (dsimp only; walk1) | (leave1; walk_say "STEP leave1"; try dsimp only) | fail "no step"))
local macro_rules | `(tactic| k_ne) => `(tactic| (refine PySem.W.neN ?_; (try dsimp only); first
  | with_reducible assumption
  | ((with_reducible refine Nat.ne_of_lt ?_); (repeat with_reducible refine Mine.nzLT ?_); (first | with_reducible assumption | exact Mine.nzA1 (by with_reducible assumption) | exact Mine.nzA2 (by with_reducible assumption) | exact Mine.nzZ2 (by with_reducible assumption) | exact Mine.nzA3 (by with_reducible assumption) | exact Mine.nzZ3 (by with_reducible assumption) | exact Mine.nzA4 (by with_reducible assumption) | exact Mine.nzZ4 (by with_reducible assumption) | exact Mine.nzA5 (by with_reducible assumption) | exact Mine.nzZ5 (by with_reducible assumption) | exact Mine.nzA6 (by with_reducible assumption) | exact Mine.nzZ6 (by with_reducible assumption) | exact Mine.nzA7 (by with_reducible assumption) | exact Mine.nzZ7 (by with_reducible assumption) | exact Mine.nzA8 (by with_reducible assumption) | exact Mine.nzZ8 (by with_reducible assumption) | exact Mine.nzA9 (by with_reducible assumption) | exact Mine.nzZ9 (by with_reducible assumption) | exact Mine.nzA10 (by with_reducible assumption) | exact Mine.nzZ10 (by with_reducible assumption) | exact Mine.nzA11 (by with_reducible assumption) | exact Mine.nzZ11 (by with_reducible assumption) | exact Mine.nzA12 (by with_reducible assumption) | exact Mine.nzZ12 (by with_reducible assumption) | exact Mine.nzA13 (by with_reducible assumption) | exact Mine.nzZ13 (by with_reducible assumption) | exact Mine.nzA14 (by with_reducible assumption) | exact Mine.nzZ14 (by with_reducible assumption) | exact Mine.nzA15 (by with_reducible assumption) | exact Mine.nzZ15 (by with_reducible assumption) | exact Mine.nzA16 (by with_reducible assumption) | exact Mine.nzZ16 (by with_reducible assumption)))
  | ((with_reducible refine Nat.ne_of_gt ?_); (repeat with_reducible refine Mine.nzLT ?_); (first | with_reducible assumption | exact Mine.nzA1 (by with_reducible assumption) | exact Mine.nzA2 (by with_reducible assumption) | exact Mine.nzZ2 (by with_reducible assumption) | exact Mine.nzA3 (by with_reducible assumption) | exact Mine.nzZ3 (by with_reducible assumption) | exact Mine.nzA4 (by with_reducible assumption) | exact Mine.nzZ4 (by with_reducible assumption) | exact Mine.nzA5 (by with_reducible assumption) | exact Mine.nzZ5 (by with_reducible assumption) | exact Mine.nzA6 (by with_reducible assumption) | exact Mine.nzZ6 (by with_reducible assumption) | exact Mine.nzA7 (by with_reducible assumption) | exact Mine.nzZ7 (by with_reducible assumption) | exact Mine.nzA8 (by with_reducible assumption) | exact Mine.nzZ8 (by with_reducible assumption) | exact Mine.nzA9 (by with_reducible assumption) | exact Mine.nzZ9 (by with_reducible assumption) | exact Mine.nzA10 (by with_reducible assumption) | exact Mine.nzZ10 (by with_reducible assumption) | exact Mine.nzA11 (by with_reducible assumption) | exact Mine.nzZ11 (by with_reducible assumption) | exact Mine.nzA12 (by with_reducible assumption) | exact Mine.nzZ12 (by with_reducible assumption) | exact Mine.nzA13 (by with_reducible assumption) | exact Mine.nzZ13 (by with_reducible assumption) | exact Mine.nzA14 (by with_reducible assumption) | exact Mine.nzZ14 (by with_reducible assumption) | exact Mine.nzA15 (by with_reducible assumption) | exact Mine.nzZ15 (by with_reducible assumption) | exact Mine.nzA16 (by with_reducible assumption) | exact Mine.nzZ16 (by with_reducible assumption)))
  | ((repeat with_reducible refine Mine.nzSS ?_); (first | with_reducible refine Mine.nzS0 ?_ | with_reducible refine Mine.nz0S ?_); (repeat (first | with_reducible exact Nat.le_refl _ | with_reducible refine Mine.nzLS ?_)); done)
  | (first | with_reducible assumption | exact Mine.nzA1 (by with_reducible assumption) | exact Mine.nzA2 (by with_reducible assumption) | exact Mine.nzZ2 (by with_reducible assumption) | exact Mine.nzA3 (by with_reducible assumption) | exact Mine.nzZ3 (by with_reducible assumption) | exact Mine.nzA4 (by with_reducible assumption) | exact Mine.nzZ4 (by with_reducible assumption) | exact Mine.nzA5 (by with_reducible assumption) | exact Mine.nzZ5 (by with_reducible assumption) | exact Mine.nzA6 (by with_reducible assumption) | exact Mine.nzZ6 (by with_reducible assumption) | exact Mine.nzA7 (by with_reducible assumption) | exact Mine.nzZ7 (by with_reducible assumption) | exact Mine.nzA8 (by with_reducible assumption) | exact Mine.nzZ8 (by with_reducible assumption) | exact Mine.nzA9 (by with_reducible assumption) | exact Mine.nzZ9 (by with_reducible assumption) | exact Mine.nzA10 (by with_reducible assumption) | exact Mine.nzZ10 (by with_reducible assumption) | exact Mine.nzA11 (by with_reducible assumption) | exact Mine.nzZ11 (by with_reducible assumption) | exact Mine.nzA12 (by with_reducible assumption) | exact Mine.nzZ12 (by with_reducible assumption) | exact Mine.nzA13 (by with_reducible assumption) | exact Mine.nzZ13 (by with_reducible assumption) | exact Mine.nzA14 (by with_reducible assumption) | exact Mine.nzZ14 (by with_reducible assumption) | exact Mine.nzA15 (by with_reducible assumption) | exact Mine.nzZ15 (by with_reducible assumption) | exact Mine.nzA16 (by with_reducible assumption) | exact Mine.nzZ16 (by with_reducible assumption))
  | (apply Ne.symm; (first | with_reducible assumption | exact Mine.nzA1 (by with_reducible assumption) | exact Mine.nzA2 (by with_reducible assumption) | exact Mine.nzZ2 (by with_reducible assumption) | exact Mine.nzA3 (by with_reducible assumption) | exact Mine.nzZ3 (by with_reducible assumption) | exact Mine.nzA4 (by with_reducible assumption) | exact Mine.nzZ4 (by with_reducible assumption) | exact Mine.nzA5 (by with_reducible assumption) | exact Mine.nzZ5 (by with_reducible assumption) | exact Mine.nzA6 (by with_reducible assumption) | exact Mine.nzZ6 (by with_reducible assumption) | exact Mine.nzA7 (by with_reducible assumption) | exact Mine.nzZ7 (by with_reducible assumption) | exact Mine.nzA8 (by with_reducible assumption) | exact Mine.nzZ8 (by with_reducible assumption) | exact Mine.nzA9 (by with_reducible assumption) | exact Mine.nzZ9 (by with_reducible assumption) | exact Mine.nzA10 (by with_reducible assumption) | exact Mine.nzZ10 (by with_reducible assumption) | exact Mine.nzA11 (by with_reducible assumption) | exact Mine.nzZ11 (by with_reducible assumption) | exact Mine.nzA12 (by with_reducible assumption) | exact Mine.nzZ12 (by with_reducible assumption) | exact Mine.nzA13 (by with_reducible assumption) | exact Mine.nzZ13 (by with_reducible assumption) | exact Mine.nzA14 (by with_reducible assumption) | exact Mine.nzZ14 (by with_reducible assumption) | exact Mine.nzA15 (by with_reducible assumption) | exact Mine.nzZ15 (by with_reducible assumption) | exact Mine.nzA16 (by with_reducible assumption) | exact Mine.nzZ16 (by with_reducible assumption)))
  | omega))
local macro_rules | `(tactic| k_lt $h:ident) => `(tactic| (replace $h := Mine.allLt1 $h; dsimp only [Mine.AllLt1, Mine.AllLtC] at $h:ident))
open PySem PySem.W PyProof.Rows
namespace Mine
set_option Elab.async false
theorem keepHide {h hz g' : Heap} {news : List (Addr × Obj)} (hg : hideAll h (news.map (·.1)) = g') (k : Keep g' hz) (h1 : ∀ p ∈ news, h.get? p.1 = some p.2) (h2 : ∀ p ∈ news, hz.get? p.1 = some p.2) : Keep h hz := by
  intro b o e
  by_cases hb : b ∈ news.map (·.1)
  · obtain ⟨p, hp, rfl⟩ := List.mem_map.mp hb
    rw [h1 p hp] at e; cases e
    exact h2 p hp
  · subst hg
    exact k b o (hideAll_get _ e hb)
abbrev wsL (w : World) (x dx nn nc : Addr) (T : Str) (n nt : Int) (b : Bool) (k1 k2 k3 k4 k5 t0 tn tt tb : Tok) (tail : Int) (xs : List Value) : List (Addr × Obj) :=
  [(x, instObj 153 dx), (dx, wsDict w T n nt nn b k1 k2 k3 k4 k5 t0 tn tt), (nn, tupR nc tail tb), (nc, tupL xs)]
theorem lenTI {prog : Program} {w : World} {A : Around} {E : Value → Shared → Prop} {s : Shared} {l : Addr} {xs : List Value} {c : List Int} {Q : Value → Shared → Prop} (hl : IsTup s.heap l xs.toArray) (hi : IntsAre xs c) (hz : c.length ≤ 1000) (h : Q (.int (c.length : Int) (s.toks + 1)) { s with toks := s.toks + 1 + 1 }) :
    wpAny (model prog w) A (call (.builtin "len") [.ref l]) Q E s :=
  kun_lenT hl (by have := hi.length; simp [this]) (by omega) h
def IndJ (M0 : Str → Option Value) (Rt : List (Addr × Obj)) (x dx nn nc : Addr) (size : Nat) (c : List Int) (I : Addr) (i : Nat) (m : Str → Option Value) (ns : List (Addr × Obj)) : Prop :=
  ns = Rt ∧ (ltA x I ∧ ltA dx I ∧ ltA nn I ∧ ltA nc I) ∧ ∃ t, (∀ z, z ≠ Str.ofString "i" → z ≠ Str.ofString "il" → m z = M0 z) ∧ m (Str.ofString "il") = some (.int (colL size size ((c.drop size).take i)) t)
theorem IndJ.mk' {M0 : Str → Option Value} {Rt : List (Addr × Obj)} {x dx nn nc : Addr} {size : Nat} {c : List Int} {I : Addr} {i : Nat} {m : Str → Option Value} {v : Int} {t : Tok} (lI : ltA x I ∧ ltA dx I ∧ ltA nn I ∧ ltA nc I) (hm : ∀ z, z ≠ Str.ofString "i" → z ≠ Str.ofString "il" → m z = M0 z) (hi : m (Str.ofString "il") = some (.int v t)) (e : v = colL size size ((c.drop size).take i)) : IndJ M0 Rt x dx nn nc size c I i m Rt :=
  ⟨rfl, lI, t, hm, e ▸ hi⟩
theorem colL_step {size : Nat} {c : List Int} {i : Nat} {v : Int} (hv : c[size + i]? = some v) : colL size size ((c.drop size).take (i + 1)) = colL size size ((c.drop size).take i) + ((size : Int) + (i : Int)).fdiv size * v := by
  have h1 : (c.drop size)[i]? = some v := by rw [List.getElem?_drop]; exact hv
  have h2 : i < (c.drop size).length := (List.getElem?_eq_some_iff.mp h1).1
  rw [List.take_add_one, h1, Option.toList_some, colL_append, List.length_take, Nat.min_eq_left (by omega)]
  simp [colL]
/-- a stop of the walk -/
def Stop (p : Prop) : Prop := p
theorem stopHere {p : Prop} (h : Stop p) : p := h
local macro_rules | `(tactic| walk_at "call builtin:len") => `(tactic| (k_here; (with_reducible show wpAny _ _ (call (Value.builtin "len") [Value.ref _]) _ _ _); k_dflt (refine lenTI (News.isTup (by k_asm) (by k_mem)) (by assumption) (by omega) ?_)))
local macro_rules | `(tactic| walk_at "call type:range") => `(tactic| (k_here; refine stopHere ?_))
local macro_rules | `(tactic| walk_at "subscriptTail") => `(tactic| (k_here; (with_reducible show wpAny _ _ (subscriptTail _ _ (Value.ref _) (Value.int _ _)) _ _ _); k_dflt (refine item_tuple_ints (News.isTup (by k_asm) (by k_mem)) (by assumption) (by omega) (by omega) (by omega) ?_); intro _))
set_option maxRecDepth 100000 in
set_option maxHeartbeats 8000000 in
set_option pp.deepTerms false in
set_option pp.maxSteps 6000 in
theorem ind_spec (w : World) (x dx nn nc : Addr) (T : Str) (n nt : Int) (b : Bool) (k1 k2 k3 k4 k5 t0 tn tt tb : Tok) (tail : Int) (xs : List Value) (c : List Int) (size : Nat) (t1 : Tok) :
    CtrT w 12 120 122 (wsL w x dx nn nc T n nt b k1 k2 k3 k4 k5 t0 tn tt tb tail xs) [.ref x, .int (size : Int) t1] (fun _ => IntsAre xs c ∧ 1 ≤ size ∧ size ≤ 4 ∧ c.length ≤ 100 ∧ (∀ v ∈ c, 0 ≤ v ∧ v ≤ 100) ∧ 0 ≤ tail ∧ tail ≤ 100 ∧ 0 ≤ nt ∧ nt ≤ 100 ∧ (ltA dx x ∧ ltA x nc ∧ ltA nc nn))
      (fun _ s Q => ∀ (t : Tok) (hz : Heap) (tz : Nat), Keep s.heap hz → Q (.int (tail + size * (colI size c + nt)) t) { s with heap := hz, toks := tz }) := by
  dsimp only [CtrT, P0, LS]
  k_fill
  intro mean mg mb dp un gd cn cs a ccd cl outer A₀ base h₀ L m s Q E B F X N TT hk C1 C2 hpre hdp hun hret
  obtain ⟨hI, hs1, hs2, hcl, hcb, ht0, ht1, hn0, hn1, hlt⟩ := hpre
  have hN := fun p hp => (N p hp).1
  refine wpAny_call ?_
  k_dflt (refine' enterT ?k1 ?k2 ?k3 ?k4 ?k5 ?kA ?kF ?kK ?k6 ?k7 ?k8 ?k9 ?kB ?kC1 ?kC2 ?_ ?c2 ?c3 ?c4 ?c5; (case kA => exact rfl); (case kF => exact rfl); (case kK => assumption); (case k1 => k_asm); (case k2 => k_asm); (case k3 => k_asm); (case k4 => k_asm); (case k5 => k_asm); (case k6 => k_is); (case k7 => k_is); (case k8 => ktr_room); (case k9 => exact BindsTo.of_eq rfl); (case c5 => decide); (case kB => exact locs rfl); (case kC1 => assumption); (case kC2 => assumption); (case c2 => exact rfl); (case c3 => exact rfl); (case c4 => exact rfl); k_whole)
  have hg0 : hideAll s.heap (List.map (·.1) (wsL w x dx nn nc T n nt b k1 k2 k3 k4 k5 t0 tn tt tb tail xs)) = hideAll s.heap [x, dx, nn, nc] := rfl
  rw [hg0]
  generalize hg : hideAll s.heap [x, dx, nn, nc] = g' at *
  clear C1 C2 N F B X TT
  intro L' h' F' N' B' X' T' C1 C2 l1
  (try k_lt l1)
  (try dsimp only)
  (try k_lift B')
  (try k_fold)
  dsimp only [ltA] at hlt
  k_steps
  unfold Stop
  (with_reducible rename Fr _ _ _ _ => kF)
  (with_reducible rename News _ _ _ _ => kN)
  refine nameFr kF (fun M0 hM0 kF => ?_)
  refine loopRange (IndJ M0 (wsL w x dx nn nc T n nt b k1 k2 k3 k4 k5 t0 tn tt tb tail xs) x dx nn nc size c) rfl kF kN (by omega) (by omega) (by omega) (by omega) ?g1 ?g2 ?g3 ?g4
  case g1 =>
    intro I hI0
    k_lt hI0
    exact ⟨rfl, hI0, _, fun _ _ _ => rfl, by rw [← hM0]; rfl⟩
  case g2 =>
    rintro I i m₁ ns ⟨rfl, lI, -⟩ p hp
    simp only [wsL, List.mem_cons, List.not_mem_nil, or_false] at hp
    rcases hp with rfl | rfl | rfl | rfl
    · exact Nat.ne_of_lt lI.1
    · exact Nat.ne_of_lt lI.2.1
    · exact Nat.ne_of_lt lI.2.2.1
    · exact Nat.ne_of_lt lI.2.2.2
  case g3 =>
    intro I i u m₁ news₁ hh tkk it hi hJ F N
    obtain ⟨rfl, lI, t, hm, hmi⟩ := hJ
    have em := map2 _ _ _ _ hm
    rw [hmi] at em
    generalize m₁ (Str.ofString "i") = vc at em
    subst em
    clear hm hmi
    obtain ⟨v, hv⟩ : ∃ v, c[size + i]? = some v := ⟨_, List.getElem?_eq_getElem (by omega)⟩
    have hvb := hcb v (List.mem_of_getElem? hv)
    have hgd : c.getD ((size : Int) + (i : Int)).toNat 0 = v := by
      have e : ((size : Int) + (i : Int)).toNat = size + i := by omega
      rw [e, List.getD_eq_getElem?_getD, hv]; rfl
    generalize hJn : IndJ M0 (wsL w x dx nn nc T n nt b k1 k2 k3 k4 k5 t0 tn tt tb tail xs) x dx nn nc size c I (i + 1) = Jn
    dsimp only [ltA] at lI
    generalize hM1 : M0 = M1 at hJn
    subst hM0
    clear kF kN
    k_steps
    (with_reducible rename Fr _ _ _ _ => zF)
    (with_reducible rename News _ _ _ _ => zN)
    subst hJn hM1
    refine turnNext zF zN (IndJ.mk' lI (fun z n1 n2 => ?_) rfl ?_) id
    · simp only [if_neg n1, if_neg n2]
    · rw [hgd, colL_step hv]
  case g4 =>
    rintro I m' news' hz tz ⟨rfl, lI, t, hm, hmi⟩ F N
    have em := map2 _ _ _ _ hm
    rw [hmi] at em
    generalize m' (Str.ofString "i") = vc at em
    subst em
    clear hm hmi
    subst hM0
    clear kF kN
    have ecol : colL size size ((c.drop size).take ((c.length : Int) - (size : Int)).toNat) = colI size c := by
      unfold colI
      rw [List.take_of_length_le (by simp)]
    rw [ecol] at F
    k_steps
    (try dsimp only)
    exact hret _ _ _ (keepHide hg0 F.keep hN (fun p hp => (N p hp).1))
end Mine
end
section -- Klead2
open PySem PySem.W PyProof.Rows
namespace Mine
set_option Elab.async false
/-- one more object of a contract's end, a contract's ledger behind -/
theorem newsKeepC {h₀ h h' : Heap} {L d : Addr} {m : Str → Option Value} {o : Obj} {news : List (Addr × Obj)} (F : Fr h₀ L h m) (N : News h₀ L h' news) (hn : h.get? d = none) (ho : h'.get? d = some o) : News h₀ L h' ((d, o) :: news) := by
  intro p hp
  rcases List.mem_cons.mp hp with rfl | hp
  · obtain ⟨oL, _, _, hL, _⟩ := F.ns
    refine ⟨ho, fun e => ?_, ?_⟩
    · have e' : d = L := e
      rw [e', hL] at hn; cases hn
    · cases q : h₀.get? d with
      | none => rfl
      | some o' => have := F.keep _ _ q; rw [this] at hn; cases hn
  · exact N p hp
theorem lead_ctr (w : World) (D : Addr) (vs : Array Value) (ks : List Nat) (tail : Nat) (z : Int) (t1 : Tok) (mean : ExcName → Option Value) (mg mb : Str → Option Value) (dp un : Nat) (gd : Option (List Code)) (cn : Str) (cs : Scope) (a : Addr) (ccd : Value) (cl : List (Str × Addr)) (outer : List Env) (A₀ : Around) (base h₀ : Heap) (L : Addr) (m : Str → Option Value) (news : List (Addr × Obj)) (s : Shared) (Q E : Value → Shared → Prop)
    (B : Below A₀ base outer h₀) (F : Fr h₀ L s.heap m) (X : (hd.heap_1 w.params).In h₀) (N : News h₀ L s.heap news) (T : Top topProg LS mean mg mb h₀) (hk : cs.kind = .function)
    (hL : s.heap.IsList D vs) (hI : IntsAre vs.toList (ks.map (Int.ofNat))) (h1 : ks.length ≤ 20) (h2 : ks.sum ≤ 60) (h3 : tail ≤ 20) (hz : z = (tail : Int)) (hdp : dp + 12 < recursionLimit) (hun : un + 120 < cLine)
    (hq : ∀ (x dx nn nc : Addr) (xs : List Value) (T : Str) (k1 k2 k3 k4 k5 t0 tn tt tb : Tok) (hz : Heap) (tz : Nat), Fr h₀ L hz m → News h₀ L hz ((x, instObj 153 dx) :: (dx, wsDict w T ((ks.sum + ks.length + tail : Nat) : Int) ((ks.length : Nat) : Int) nn (decide (((cntOf ks).length : Int) ≤ 1)) k1 k2 k3 k4 k5 t0 tn tt) :: (nn, tupR nc (tail : Int) tb) :: (nc, tupL xs) :: news) →
      IntsAre xs (cntOf ks) → (ltA dx x ∧ ltA x nc ∧ ltA nc nn) → Q (.ref x) { s with heap := hz, toks := tz }) :
    wpAny (model P0 w) (ktrTop dp un gd cn cs L a ccd cl outer) (call (.ref 181) [.ref D, .int z t1]) Q E s := by
  subst hz
  exact lead_spec w D vs ks tail t1 mean mg mb dp un gd cn cs a ccd cl outer A₀ base h₀ L m s Q E B F X T hk ⟨hL, hI, h1, h2, h3⟩ hdp hun fun x dx nn nc xs T k1 k2 k3 k4 k5 t0 tn tt tb hz tz kp n1 n2 n3 n4 g1 g2 g3 g4 hX hlt =>
    hq x dx nn nc xs T k1 k2 k3 k4 k5 t0 tn tt tb hz tz (frKeep F kp) (newsKeepC F (newsKeepC F (newsKeepC F (newsKeepC F (newsKeep N kp) n4 g4) n3 g3) n2 g2) n1 g1) hX hlt
section
variable {prog : Program} {w : World} {A : Around} {E : Value → Shared → Prop} {s : Shared} {nn nc nn' nc' : Addr} {xs xs' : List Value} {c c' : List Int} {tail tail' : Int} {tb tb' : Tok} {Q : Value → Shared → Prop} {h₀ : Heap} {L : Addr} {news : List (Addr × Obj)}
theorem eq_normT (N : News h₀ L s.heap news) (h1 : (nn, tupR nc tail tb) ∈ news) (h2 : (nc, tupL xs) ∈ news) (h1' : (nn', tupR nc' tail tb') ∈ news) (h2' : (nc', tupL xs') ∈ news) (hi : IntsAre xs c) (hi' : IntsAre xs' c) (hu : A.units + 64 < cLine)
    (h : Q (.bool true) s) : wpAny (model prog w) A (compareOp .Eq (.ref nn) (.ref nn')) Q E s :=
  eq_norm N h1 h2 h1' h2' hi hi' hu (by rw [decide_eq_true ⟨rfl, rfl⟩]; exact h)
theorem eq_normF (N : News h₀ L s.heap news) (h1 : (nn, tupR nc tail tb) ∈ news) (h2 : (nc, tupL xs) ∈ news) (h1' : (nn', tupR nc' tail' tb') ∈ news) (h2' : (nc', tupL xs') ∈ news) (hi : IntsAre xs c) (hi' : IntsAre xs' c') (hu : A.units + 64 < cLine) (hn : ¬ (c = c' ∧ tail = tail'))
    (h : Q (.bool false) s) : wpAny (model prog w) A (compareOp .Eq (.ref nn) (.ref nn')) Q E s :=
  eq_norm N h1 h2 h1' h2' hi hi' hu (by rw [decide_eq_false hn]; exact h)
theorem ne_normF (N : News h₀ L s.heap news) (h1 : (nn, tupR nc tail tb) ∈ news) (h2 : (nc, tupL xs) ∈ news) (h1' : (nn', tupR nc' tail tb') ∈ news) (h2' : (nc', tupL xs') ∈ news) (hi : IntsAre xs c) (hi' : IntsAre xs' c) (hu : A.units + 64 < cLine)
    (h : Q (.bool false) s) : wpAny (model prog w) A (compareOp .NotEq (.ref nn) (.ref nn')) Q E s :=
  ne_norm N h1 h2 h1' h2' hi hi' hu (by rw [decide_eq_true ⟨rfl, rfl⟩]; exact h)
end
theorem ind_ctr (w : World) (x dx nn nc : Addr) (T : Str) (n nt : Int) (b : Bool) (k1 k2 k3 k4 k5 t0 tn tt tb : Tok) (tail : Int) (xs : List Value) (c : List Int) (z : Int) (t1 : Tok) (mean : ExcName → Option Value) (mg mb : Str → Option Value) (dp un : Nat) (gd : Option (List Code)) (cn : Str) (cs : Scope) (a : Addr) (ccd : Value) (cl : List (Str × Addr)) (outer : List Env) (A₀ : Around) (base h₀ : Heap) (L : Addr) (m : Str → Option Value) (news : List (Addr × Obj)) (s : Shared) (Q E : Value → Shared → Prop)
    (B : Below A₀ base outer h₀) (F : Fr h₀ L s.heap m) (X : (hd.heap_1 w.params).In h₀) (N : News h₀ L s.heap news) (T' : Top topProg LS mean mg mb h₀) (hk : cs.kind = .function) (C1 : CodeHd h₀ 69 65) (C2 : CodeHd h₀ 76 72)
    (m1 : (x, instObj 153 dx) ∈ news) (m2 : (dx, wsDict w T n nt nn b k1 k2 k3 k4 k5 t0 tn tt) ∈ news) (m3 : (nn, tupR nc tail tb) ∈ news) (m4 : (nc, tupL xs) ∈ news)
    (hI : IntsAre xs c) (h1 : 1 ≤ z) (h2 : z ≤ 4) (h3 : c.length ≤ 100) (h4 : ∀ v ∈ c, 0 ≤ v ∧ v ≤ 100) (h5 : 0 ≤ tail ∧ tail ≤ 100 ∧ 0 ≤ nt ∧ nt ≤ 100) (hlt : ltA dx x ∧ ltA x nc ∧ ltA nc nn)
    (hdp : dp + 12 < recursionLimit) (hun : un + 120 < cLine)
    (hq : ∀ (t : Tok) (hz : Heap) (tz : Nat), Fr h₀ L hz m → News h₀ L hz news → Q (.int (tail + z * (colI z.toNat c + nt)) t) { s with heap := hz, toks := tz }) :
    wpAny (model P0 w) (ktrTop dp un gd cn cs L a ccd cl outer) (call (.ref 122) [.ref x, .int z t1]) Q E s := by
  have hz : z = (z.toNat : Int) := by omega
  rw [hz]
  exact ind_spec w x dx nn nc T n nt b k1 k2 k3 k4 k5 t0 tn tt tb tail xs c z.toNat t1 mean mg mb dp un gd cn cs a ccd cl outer A₀ base h₀ L m s Q E B F X (fun p hp => by
      simp only [wsL, List.mem_cons, List.not_mem_nil, or_false] at hp
      rcases hp with rfl | rfl | rfl | rfl
      · exact N _ m1
      · exact N _ m2
      · exact N _ m3
      · exact N _ m4) T' hk C1 C2 ⟨hI, by omega, by omega, h3, h4, h5.1, h5.2.1, h5.2.2.1, h5.2.2.2, hlt⟩ hdp hun fun t hz' tz kp => by rw [← hz]; exact hq t hz' tz (frKeep F kp) (newsKeep N kp)
end Mine
end
section -- Kdeal
theorem Mine.wTopOff30 : True := by w_top off; trivial
local macro_rules | `(tactic| walk_at "no such line") => `(tactic| fail)
local macro_rules | `(tactic| walk_at "no such line") => `(tactic| fail)
local macro_rules | `(tactic| walk_at "no such line") => `(tactic| fail)
local macro_rules | `(tactic| walk_at "no such line") => `(tactic| fail)
local macro_rules | `(tactic| walk_at "no such line") => `(tactic| fail)
local macro_rules | `(tactic| walk_at "no such line") => `(tactic| fail)
local macro_rules | `(tactic| walk_at "no such line") => `(tactic| fail)
local macro_rules | `(tactic| walk_at "no such line") => `(tactic| fail)
local macro_rules | `(tactic| walk_at "no such line") => `(tactic| fail)
local macro_rules | `(tactic| walk_at "no such line") => `(tactic| fail)
local macro_rules | `(tactic| walk_at "no such line") => `(tactic| fail)
local macro_rules | `(tactic| walk_at "no such line") => `(tactic| fail)
local macro_rules | `(tactic| walk_at "no such line") => `(tactic| fail)
local macro_rules | `(tactic| walk_at "no such line") => `(tactic| fail)
local macro_rules | `(tactic| walk_at "no such line") => `(tactic| fail)
local macro_rules | `(tactic| walk_at "no such line") => `(tactic| fail)
local macro_rules | `(tactic| walk_at "no such line") => `(tactic| fail)
local macro_rules | `(tactic| walk_at "no such line") => `(tactic| fail)
local macro_rules | `(tactic| walk_at "no such line") => `(tactic| fail)
local macro_rules | `(tactic| walk_at "no such line") => `(tactic| fail)
local macro_rules | `(tactic| walk_at "no such line") => `(tactic| fail)
local macro_rules | `(tactic| walk_at "no such line") => `(tactic| fail)
local macro_rules | `(tactic| walk_at "no such line") => `(tactic| fail)
local macro_rules | `(tactic| walk_at "no such line") => `(tactic| fail)
local macro_rules | `(tactic| walk_at "no such line") => `(tactic| fail)
local macro_rules | `(tactic| walk_at "no such line") => `(tactic| fail)
local macro_rules | `(tactic| walk_at "no such line") => `(tactic| fail)
local macro_rules | `(tactic| walk_at "no such line") => `(tactic| fail)
local macro_rules | `(tactic| walk_at "no such line") => `(tactic| fail)
local macro_rules | `(tactic| walk_at "no such line") => `(tactic| fail)
local macro_rules | `(tactic| walk_at "no such line") => `(tactic| fail)
local macro_rules | `(tactic| walk_at "no such line") => `(tactic| fail)
local macro_rules | `(tactic| walk_at "no such line") => `(tactic| fail)
local macro_rules | `(tactic| walk_at "no such line") => `(tactic| fail)
local macro_rules | `(tactic| walk_at "no such line") => `(tactic| fail)
local macro_rules | `(tactic| walk_at "no such line") => `(tactic| fail)
local macro_rules | `(tactic| walk_at "no such line") => `(tactic| fail)
local macro_rules | `(tactic| walk_at "no such line") => `(tactic| fail)
local macro_rules | `(tactic| walk_at "no such line") => `(tactic| fail)
local macro_rules | `(tactic| walk_at "no such line") => `(tactic| fail)
local macro_rules | `(tactic| walk_at "no such line") => `(tactic| fail)
local macro_rules | `(tactic| walk_at "no such line") => `(tactic| fail)
local macro_rules | `(tactic| walk_at "no such line") => `(tactic| fail)
local macro_rules | `(tactic| walk_at "no such line") => `(tactic| fail)
local macro_rules | `(tactic| walk_at "no such line") => `(tactic| fail)
local macro_rules | `(tactic| walk_at "no such line") => `(tactic| fail)
local macro_rules | `(tactic| walk_at "no such line") => `(tactic| fail)
local macro_rules | `(tactic| walk_at "no such line") => `(tactic| fail)
local macro_rules | `(tactic| walk_at "no such line") => `(tactic| fail)
local macro_rules | `(tactic| walk_at "no such line") => `(tactic| fail)
local macro_rules | `(tactic| walk_at "eval BinOp") => `(tactic| (k_here; k_dflt (refine' Mine.pev_ok ?F ?e ?c ?k ?_; (case F => k_asm); (case e => exact rfl); (case c => (repeat (first | exact trivial | refine And.intro (by mul_fits) ?_))); (case k => rfl); k_whole)))
local macro_rules | `(tactic| walk_at "spliced") => `(tactic| (k_here; k_dflt (refine' Mine.args_ok ?F ?k ?e ?c ?_; (case F => k_asm); (case k => rfl); (case e => exact rfl); (case c => (repeat (first | exact trivial | refine And.intro (by mul_fits) ?_))); k_whole)))
local macro_rules | `(tactic| walk_at "isTrue Compare") => `(tactic| (k_here; k_dflt (refine' Mine.cmp_ok ?F ?e ?c ?k ?n ?_; (case F => k_asm); (case e => exact rfl); (case c => (repeat (first | exact trivial | refine And.intro (by mul_fits) ?_))); (case k => rfl); (case n => rfl); k_whole)))
local macro_rules | `(tactic| walk_at "exec Assign") => `(tactic| (k_here; k_dflt (refine' Mine.assign_ok0 ?F ?N ?e ?c ?k ?x ?s ?_; (case F => k_asm); (case N => k_asm); (case e => exact rfl); (case c => (repeat (first | exact trivial | refine And.intro (by mul_fits) ?_))); (case k => rfl); (case x => rfl); (case s => rfl); k_whole; intro h' F' N'; (try k_sweep))))
local macro_rules | `(tactic| walk_at "exec Return some") => `(tactic| (k_here; k_dflt (refine' Mine.ret_ok ?F ?e ?c ?k ?_; (case F => k_asm); (case e => exact rfl); (case c => (repeat (first | exact trivial | refine And.intro (by mul_fits) ?_))); (case k => rfl); k_whole)))
local macro_rules | `(tactic| k_steps) => `(tactic| repeat' (first | dsimp only | (k_unfold; (try dsimp only)) | (k_end; wrow_close) | walk1 | (dsimp only; walk1) | (leave1; walk_say "STEP leave1"; try dsimp only) | fail "no step"))
local macro_rules | `(tactic| k_ne) => `(tactic| (refine PySem.W.neN ?_; (try dsimp only); first
  | with_reducible assumption
  | ((with_reducible refine Nat.ne_of_lt ?_); (repeat with_reducible refine Mine.nzLT ?_); (first | with_reducible assumption | exact Mine.nzA1 (by with_reducible assumption) | exact Mine.nzA2 (by with_reducible assumption) | exact Mine.nzZ2 (by with_reducible assumption) | exact Mine.nzA3 (by with_reducible assumption) | exact Mine.nzZ3 (by with_reducible assumption) | exact Mine.nzA4 (by with_reducible assumption) | exact Mine.nzZ4 (by with_reducible assumption) | exact Mine.nzA5 (by with_reducible assumption) | exact Mine.nzZ5 (by with_reducible assumption) | exact Mine.nzA6 (by with_reducible assumption) | exact Mine.nzZ6 (by with_reducible assumption) | exact Mine.nzA7 (by with_reducible assumption) | exact Mine.nzZ7 (by with_reducible assumption) | exact Mine.nzA8 (by with_reducible assumption) | exact Mine.nzZ8 (by with_reducible assumption) | exact Mine.nzA9 (by with_reducible assumption) | exact Mine.nzZ9 (by with_reducible assumption) | exact Mine.nzA10 (by with_reducible assumption) | exact Mine.nzZ10 (by with_reducible assumption) | exact Mine.nzA11 (by with_reducible assumption) | exact Mine.nzZ11 (by with_reducible assumption) | exact Mine.nzA12 (by with_reducible assumption) | exact Mine.nzZ12 (by with_reducible assumption) | exact Mine.nzA13 (by with_reducible assumption) | exact Mine.nzZ13 (by with_reducible assumption) | exact Mine.nzA14 (by with_reducible assumption) | exact Mine.nzZ14 (by with_reducible assumption) | exact Mine.nzA15 (by with_reducible assumption) | exact Mine.nzZ15 (by with_reducible assumption) | exact Mine.nzA16 (by with_reducible assumption) | exact Mine.nzZ16 (by with_reducible assumption)))
  | ((with_reducible refine Nat.ne_of_gt ?_); (repeat with_reducible refine Mine.nzLT ?_); (first | with_reducible assumption | exact Mine.nzA1 (by with_reducible assumption) | exact Mine.nzA2 (by with_reducible assumption) | exact Mine.nzZ2 (by with_reducible assumption) | exact Mine.nzA3 (by with_reducible assumption) | exact Mine.nzZ3 (by with_reducible assumption) | exact Mine.nzA4 (by with_reducible assumption) | exact Mine.nzZ4 (by with_reducible assumption) | exact Mine.nzA5 (by with_reducible assumption) | exact Mine.nzZ5 (by with_reducible assumption) | exact Mine.nzA6 (by with_reducible assumption) | exact Mine.nzZ6 (by with_reducible assumption) | exact Mine.nzA7 (by with_reducible assumption) | exact Mine.nzZ7 (by with_reducible assumption) | exact Mine.nzA8 (by with_reducible assumption) | exact Mine.nzZ8 (by with_reducible assumption) | exact Mine.nzA9 (by with_reducible assumption) | exact Mine.nzZ9 (by with_reducible assumption) | exact Mine.nzA10 (by with_reducible assumption) | exact Mine.nzZ10 (by with_reducible assumption) | exact Mine.nzA11 (by with_reducible assumption) | exact Mine.nzZ11 (by with_reducible assumption) | exact Mine.nzA12 (by with_reducible assumption) | exact Mine.nzZ12 (by with_reducible assumption) | exact Mine.nzA13 (by with_reducible assumption) | exact Mine.nzZ13 (by with_reducible assumption) | exact Mine.nzA14 (by with_reducible assumption) | exact Mine.nzZ14 (by with_reducible assumption) | exact Mine.nzA15 (by with_reducible assumption) | exact Mine.nzZ15 (by with_reducible assumption) | exact Mine.nzA16 (by with_reducible assumption) | exact Mine.nzZ16 (by with_reducible assumption)))
  | ((repeat with_reducible refine Mine.nzSS ?_); (first | with_reducible refine Mine.nzS0 ?_ | with_reducible refine Mine.nz0S ?_); (repeat (first | with_reducible exact Nat.le_refl _ | with_reducible refine Mine.nzLS ?_)); done)
  | (first | with_reducible assumption | exact Mine.nzA1 (by with_reducible assumption) | exact Mine.nzA2 (by with_reducible assumption) | exact Mine.nzZ2 (by with_reducible assumption) | exact Mine.nzA3 (by with_reducible assumption) | exact Mine.nzZ3 (by with_reducible assumption) | exact Mine.nzA4 (by with_reducible assumption) | exact Mine.nzZ4 (by with_reducible assumption) | exact Mine.nzA5 (by with_reducible assumption) | exact Mine.nzZ5 (by with_reducible assumption) | exact Mine.nzA6 (by with_reducible assumption) | exact Mine.nzZ6 (by with_reducible assumption) | exact Mine.nzA7 (by with_reducible assumption) | exact Mine.nzZ7 (by with_reducible assumption) | exact Mine.nzA8 (by with_reducible assumption) | exact Mine.nzZ8 (by with_reducible assumption) | exact Mine.nzA9 (by with_reducible assumption) | exact Mine.nzZ9 (by with_reducible assumption) | exact Mine.nzA10 (by with_reducible assumption) | exact Mine.nzZ10 (by with_reducible assumption) | exact Mine.nzA11 (by with_reducible assumption) | exact Mine.nzZ11 (by with_reducible assumption) | exact Mine.nzA12 (by with_reducible assumption) | exact Mine.nzZ12 (by with_reducible assumption) | exact Mine.nzA13 (by with_reducible assumption) | exact Mine.nzZ13 (by with_reducible assumption) | exact Mine.nzA14 (by with_reducible assumption) | exact Mine.nzZ14 (by with_reducible assumption) | exact Mine.nzA15 (by with_reducible assumption) | exact Mine.nzZ15 (by with_reducible assumption) | exact Mine.nzA16 (by with_reducible assumption) | exact Mine.nzZ16 (by with_reducible assumption))
  | (apply Ne.symm; (first | with_reducible assumption | exact Mine.nzA1 (by with_reducible assumption) | exact Mine.nzA2 (by with_reducible assumption) | exact Mine.nzZ2 (by with_reducible assumption) | exact Mine.nzA3 (by with_reducible assumption) | exact Mine.nzZ3 (by with_reducible assumption) | exact Mine.nzA4 (by with_reducible assumption) | exact Mine.nzZ4 (by with_reducible assumption) | exact Mine.nzA5 (by with_reducible assumption) | exact Mine.nzZ5 (by with_reducible assumption) | exact Mine.nzA6 (by with_reducible assumption) | exact Mine.nzZ6 (by with_reducible assumption) | exact Mine.nzA7 (by with_reducible assumption) | exact Mine.nzZ7 (by with_reducible assumption) | exact Mine.nzA8 (by with_reducible assumption) | exact Mine.nzZ8 (by with_reducible assumption) | exact Mine.nzA9 (by with_reducible assumption) | exact Mine.nzZ9 (by with_reducible assumption) | exact Mine.nzA10 (by with_reducible assumption) | exact Mine.nzZ10 (by with_reducible assumption) | exact Mine.nzA11 (by with_reducible assumption) | exact Mine.nzZ11 (by with_reducible assumption) | exact Mine.nzA12 (by with_reducible assumption) | exact Mine.nzZ12 (by with_reducible assumption) | exact Mine.nzA13 (by with_reducible assumption) | exact Mine.nzZ13 (by with_reducible assumption) | exact Mine.nzA14 (by with_reducible assumption) | exact Mine.nzZ14 (by with_reducible assumption) | exact Mine.nzA15 (by with_reducible assumption) | exact Mine.nzZ15 (by with_reducible assumption) | exact Mine.nzA16 (by with_reducible assumption) | exact Mine.nzZ16 (by with_reducible assumption)))
  | omega))
local macro_rules | `(tactic| k_lt $h:ident) => `(tactic| (replace $h := Mine.allLt1 $h; dsimp only [Mine.AllLt1, Mine.AllLtC] at $h:ident))
open PySem PySem.W PyProof.Rows
namespace Mine
set_option Elab.async false
def Passed : Prop := True
local macro_rules | `(tactic| walk_at "compareOp NotEq ref ref") => `(tactic| (k_here; k_dflt (refine ne_normF (by k_asm) (by k_mem) (by k_mem) (by k_mem) (by k_mem) (by assumption) (by assumption) (by ktr_units) ?_)))
local macro_rules | `(tactic| walk_at "compareOp Eq ref ref") => `(tactic| (k_here; k_dflt (first | refine eq_normT (by k_asm) (by k_mem) (by k_mem) (by k_mem) (by k_mem) (by assumption) (by assumption) (by ktr_units) ?_ | refine eq_normF (by k_asm) (by k_mem) (by k_mem) (by k_mem) (by k_mem) (by assumption) (by assumption) (by ktr_units) (by assumption) ?_)))
local macro_rules | `(tactic| walk_at "call builtin:len") => `(tactic| (k_here; (with_reducible show wpAny _ _ (call (Value.builtin "len") [Value.ref _]) _ _ _); k_dflt (first | refine kun_lenL (by is_list) (by assumption) (by omega) ?_ | refine lenTI (News.isTup (by k_asm) (by k_mem)) (by assumption) (by omega) ?_)))
local macro_rules | `(tactic| walk_at "call ref") => `(tactic| (k_here; (try dsimp only); (first | (with_reducible show wpAny _ _ (call (Value.ref 115) _) _ _ _) | (with_reducible show wpAny _ _ (call (Value.ref 129) _) _ _ _)); (refine wpAny_call ?_); (try simp only [List.cons_append, List.nil_append, List.append_nil]); k_dflt (refine' code_def ?k1 ?k2 ?k3 ?k4 ?k5 ?kA ?kF ?kK ?k6 ?k7 ?k8 ?k9 ?kB ?_ ?c2 ?c3 ?c4 ?c5; (case kA => exact rfl); (case kF => exact rfl); (case kK => exact rfl); (case k1 => k_asm); (case k2 => k_asm); (case k3 => k_asm); (case k4 => k_asm); (case k5 => k_asm); (case k6 => k_is); (case k7 => k_is); (case k8 => ktr_room); (case k9 => exact BindsTo.of_eq rfl); (case c5 => decide); (case kB => exact locs rfl); (case c2 => exact rfl); (case c3 => exact rfl); (case c4 => exact rfl); k_whole; intro g' L' h' FG' F' N' B' X' T'; (try dsimp only); (try k_lift B'); (try k_fold))))
local macro_rules | `(tactic| walk_at "call ref") => `(tactic| (k_here; (with_reducible show wpAny _ _ (call (Value.ref 122) _) _ _ _); k_dflt (refine' ind_ctr _ _ _ _ _ _ _ _ _ _ _ _ _ _ _ _ _ _ _ _ _ _ _ _ _ _ _ _ _ _ _ _ _ _ _ _ _ _ _ _ _ _ _ _ ?k1 ?k2 ?k3 ?k4 ?k5 ?k6 ?kc1 ?kc2 ?m1 ?m2 ?m3 ?m4 ?i1 ?i2 ?i3 ?i4 ?i5 ?i6 ?i7 ?k12 ?k13 ?_; (case k1 => k_asm); (case k2 => k_asm); (case k3 => k_asm); (case k4 => k_asm); (case k5 => k_asm); (case k6 => exact rfl); (case kc1 => assumption); (case kc2 => assumption); (case m1 => k_mem); (case m2 => k_mem); (case m3 => k_mem); (case m4 => k_mem); (case i1 => assumption); (case i2 => omega); (case i3 => omega); (case i4 => omega); (case i5 => assumption); (case i6 => omega); (case i7 => assumption); (case k12 => ktr_room); (case k13 => ktr_units); k_whole); intro t' h' tk' F' N'; (try dsimp only); (try k_fold)))
local macro_rules | `(tactic| walk_at "exec If") => `(tactic| (k_here; (with_reducible show wpAny _ _ (exec (Stmt.If (Expr.Compare (Expr.Name (Str.ofString "rest") _) _ _ _) _ _ _) _) _ _ _); (fail_if_success (have : Passed := by assumption)); refine stopHere ?_))
local macro_rules | `(tactic| walk_at "call type:range") => `(tactic| (k_here; refine stopHere ?_))
local macro_rules | `(tactic| walk_at "call type:tuple") => `(tactic| (k_here; (with_reducible show wpAny _ _ (call (Value.type _) [Value.ref _]) _ _ _); k_dflt (refine' kde_tupleOf ?k1 ?k2 ?k3 ?k4 ?k5 ?_; (case k1 => k_asm); (case k2 => k_asm); (case k3 => exact News.isList (by k_asm) (by k_mem)); (case k4 => simp only [List.size_toArray]; omega); (case k5 => exact rfl); k_whole); intro D' h' F' N' l1; (try k_lt l1); (try k_sweep)))
theorem cntQ_pos {q A r : Nat} (h : r < A) (h0 : 0 < r) : cntQ q (A - r) r = (List.replicate (q : Int).toNat [(0 : Int)]).flatten ++ [(A : Int) - (r : Int)] ++ [(r : Int)] := by
  unfold cntQ
  rw [if_pos h0, Int.toNat_natCast, List.flatten_replicate_singleton, List.append_assoc]
  congr 2
  show ((A - r : Nat) : Int) = _
  omega
theorem cntQ_nil {q A r : Nat} (h : r < A) (h0 : ¬ 0 < r) : cntQ q (A - r) r = (List.replicate (q : Int).toNat [(0 : Int)]).flatten ++ [(A : Int) - (r : Int)] := by
  unfold cntQ
  rw [if_neg h0, if_pos (by omega), Int.toNat_natCast, List.flatten_replicate_singleton]
  congr 2
  show ((A - r : Nat) : Int) = _
  omega
theorem ifif (c : Str) (v u : Option Value) (M : Str → Option Value) : (fun y => if y = c then v else if y = c then u else M y) = fun y => if y = c then v else M y := by
  funext y; by_cases h : y = c
  · rw [if_pos h, if_pos h]
  · rw [if_neg h, if_neg h, if_neg h]
theorem News.six {g h : Heap} {L : Addr} {p1 p2 p3 p4 p5 p6 : Addr × Obj} {t1 t2 t3 t4 : Addr × Obj} (N : News g L h [t1, t2, t3, p1, p2, p3, p4, t4, p5, p6]) : News g L h [p1, p2, p3, p4, p5, p6] := fun p hp => N p (by
  simp only [List.mem_cons, List.not_mem_nil, or_false] at hp ⊢
  rcases hp with h | h | h | h | h | h <;> simp [h])
theorem flat_one (k : Nat) (v : Int) : (List.replicate (k : Int).toNat [v]).flatten = List.replicate k v := by
  rw [Int.toNat_natCast, List.flatten_replicate_singleton]
theorem ahead_eq {q A r : Nat} (h : r < A) : (List.replicate (r : Int).toNat [(q : Int) + 1]).flatten ++ (List.replicate ((A : Int) - (r : Int)).toNat [(q : Int)]).flatten = (aheadN q A r).map Int.ofNat := by
  rw [show (A : Int) - (r : Int) = ((A - r : Nat) : Int) by omega, flat_one, flat_one]
  simp [aheadN]
theorem ahead_eq0 {q A r : Nat} (h : r < A) : (List.replicate (r : Int).toNat [(q : Int) + 1]).flatten ++ (List.replicate ((A : Int) - (r : Int)).toNat [(q : Int)]).flatten ++ [0] = (aheadN q A r ++ [0]).map Int.ofNat := by
  rw [ahead_eq h, List.map_append]; rfl
theorem neqSelf {p : Prop} {b : Bool} (h : (b != b) = true) : p := by cases b <;> cases h
theorem nameAll {P : Prop} {h₀ h : Heap} {L : Addr} {r : List (Addr × Obj)} (_ : News h₀ L h r) (k : ∀ r', r = r' → P) : P := k r rfl
/-- two ways through a statement that end in one list -/
theorem joinL {prog : Program} {w : World} {A : Around} {t : Sem Flow} {Q : Flow → Shared → Prop} {E : Value → Shared → Prop} {s : Shared} {g : Heap} {L : Addr} {nm : Str} {v : Value} {M : Str → Option Value} (R : List (Addr × Obj)) (c : List Int)
    (_ : Fr g L s.heap (fun y => if y = nm then some v else M y))
    (ways : ∀ Q' : Flow → Shared → Prop, (∀ D ws h tk, Fr g L h (fun y => if y = nm then some (.ref D) else M y) → News g L h ((D, W.listOf ws.toArray 0) :: R) → IntsAre ws c → Q' .next { s with heap := h, toks := tk }) → wpAny (model prog w) A t Q' E s)
    (rest : ∀ D ws h tk, Fr g L h (fun y => if y = nm then some (.ref D) else M y) → News g L h ((D, W.listOf ws.toArray 0) :: R) → IntsAre ws c → Q .next { s with heap := h, toks := tk }) : wpAny (model prog w) A t Q E s := ways Q rest
theorem sum_cast : ∀ ks : List Nat, (List.map Int.ofNat ks).sum = ((ks.sum : Nat) : Int)
  | [] => rfl
  | k :: ks => by rw [List.map_cons, List.sum_cons, List.sum_cons, sum_cast ks]; simp
set_option maxRecDepth 100000 in
set_option maxHeartbeats 8000000 in
set_option pp.deepTerms false in
set_option pp.maxSteps 6000 in
theorem deal_T1 (w : World) (c1 : Addr) (oc1 : Obj) (vs1 : Array Value) (tq1 : Tok) (c2 : Addr) (oc2 : Obj) (vs2 : Array Value) (tq2 : Tok) (D : Addr) (vs : Array Value) (ks : List Nat) :
    CtrT w 44 440 188 [(65, tab65 c1), (72, tab72 c2)] [.ref D] (fun h => TFa h c1 oc1 vs1 tq1 c2 oc2 vs2 tq2 ∧ h.IsList D vs ∧ D ≠ 65 ∧ D ≠ 72 ∧ IntsAre vs.toList (ks.map Int.ofNat) ∧ Two ks)
      (fun _ s Q => ∀ (hz : Heap) (tz : Nat), Keep s.heap hz → Q (.bool true) { s with heap := hz, toks := tz }) := by
  dsimp only [CtrT, P0, LS]
  k_fill
  intro mean mg mb dp un gd cn cs a ccd cl outer A₀ base h₀ L m s Q E B F X N T hk C1 C2 hpre hdp hun hret
  obtain ⟨hTF, hL0, hd1, hd2, hI, hT⟩ := hpre
  have b1 := (N _ (.head _)).1
  have b2 := (N _ (.tail _ (.head _))).1
  have hdl : D ∉ ([65, 72] : List Addr) := notIn2 hd1 hd2
  have hL1 : (hideAll s.heap [65, 72]).IsList D vs := by
    obtain ⟨o, ho, r⟩ := hL0
    exact ⟨o, hideAll_get _ ho hdl, r⟩
  refine wpAny_call ?_
  k_dflt (refine' enterT ?k1 ?k2 ?k3 ?k4 ?k5 ?kA ?kF ?kK ?k6 ?k7 ?k8 ?k9 ?kB ?kC1 ?kC2 ?_ ?c2 ?c3 ?c4 ?c5; (case kA => exact rfl); (case kF => exact rfl); (case kK => assumption); (case k1 => k_asm); (case k2 => k_asm); (case k3 => k_asm); (case k4 => k_asm); (case k5 => k_asm); (case k6 => k_is); (case k7 => k_is); (case k8 => ktr_room); (case k9 => exact BindsTo.of_eq rfl); (case c5 => decide); (case kB => exact locs rfl); (case kC1 => assumption); (case kC2 => assumption); (case c2 => exact rfl); (case c3 => exact rfl); (case c4 => exact rfl); k_whole)
  have hg0 : hideAll s.heap (List.map (·.1) [(65, tab65 c1), (72, tab72 c2)]) = hideAll s.heap [65, 72] := rfl
  rw [hg0]
  generalize hg : hideAll s.heap [65, 72] = g' at *
  clear C1 C2 N F B X T hg0
  intro L' h' F' N' B' X' T' C1 C2 l1
  (try k_lt l1)
  (try dsimp only)
  (try k_lift B')
  (try k_fold)
  have hvl : vs.size = ks.length := by have := hI.length; simpa using this
  have hsz : vs.size ≤ sizeLine := by rw [sizeLine_eq]; have := hT.l2; omega
  have hsum : (List.map Int.ofNat ks).sum = ((ks.sum : Nat) : Int) := sum_cast ks
  have hS := hT.s
  have hA1 := hT.l1
  have hA2 := hT.l2
  have hvI : (vs.size : Int) = ((ks.length : Nat) : Int) := by omega
  w_on
  k_steps
  (with_reducible rename Fr _ _ _ _ => zF)
  (with_reducible rename News _ _ _ _ => zN)
  rw [hsum] at zF ⊢
  have zn : News g' L' _ [(65, tab65 c1), (72, tab72 c2)] := cb_drop zN (by kcj_all)
  have kp := keep_two hg zF.keep b1 b2 (zn _ (.head _)).1 (zn _ (.tail _ (.head _))).1
  k_here
  k_dflt (refine' im_T1 w c1 oc1 vs1 tq1 c2 oc2 vs2 tq2 _ _ _ _ _ _ _ _ _ _ _ _ _ _ _ _ _ _ _ _ _ _ _ _ ?k1 ?k2 ?k3 ?k4 ?k5 ?k6 ?kC1 ?kC2 ?k8 ?k9 ?k10 ?_; (case k1 => k_asm); (case k2 => k_asm); (case k3 => k_asm); (case k4 => exact zn); (case k5 => k_asm); (case k6 => exact rfl); (case kC1 => assumption); (case kC2 => assumption); (case k8 => exact ⟨hTF.keep kp, by omega, by omega, by omega, by omega⟩); (case k9 => ktr_room); (case k10 => ktr_units); k_whole)
  intro q rr d ta tb hz tz hqr kb dn dg
  obtain ⟨rfl, rfl⟩ := hqr
  have F8 := frKeep zF kb
  have N8 := newsKeep1 zF zn kb dn dg
  clear zF zN zn kp kb dn dg
  have hq0 : ((ks.sum : Nat) : Int) / ((ks.length : Nat) : Int) = ((ks.sum / ks.length : Nat) : Int) := (Int.natCast_ediv ..).symm
  have hr0 : ((ks.sum : Nat) : Int) % ((ks.length : Nat) : Int) = ((ks.sum % ks.length : Nat) : Int) := (Int.natCast_emod ..).symm
  rw [hq0, hr0] at N8
  have hr1 : ks.sum % ks.length < ks.length := Nat.mod_lt _ (by omega)
  have hqs : ((ks.sum / ks.length : Nat) : Int) * ((ks.length : Nat) : Int) + ((ks.sum % ks.length : Nat) : Int) = ((ks.sum : Nat) : Int) := by
    have := Nat.div_add_mod ks.sum ks.length
    rw [Nat.mul_comm] at this
    exact_mod_cast this
  have hqle : ks.sum / ks.length ≤ ks.sum := Nat.div_le_self ..
  have hcd := cnt_deal hT.two rfl rfl rfl hT.l1
  generalize hqq : ks.sum / ks.length = q at *
  generalize hrr : ks.sum % ks.length = r at *
  clear hq0 hr0
  k_steps
  · exact absurd hqs (by assumption)
  · (with_reducible rename Fr _ _ _ _ => zF)
    (with_reducible rename News _ _ _ _ => zN)
    k_here
    k_dflt (refine' lead_ctr _ _ _ ks r _ _ _ _ _ _ _ _ _ _ _ _ _ _ _ _ _ _ _ _ _ _ _ ?k1 ?k2 ?k3 ?k4 ?k5 ?k6 ?k7 ?k8 ?k9 ?k10 ?k11 ?kz ?k12 ?k13 ?_; (case kz => exact rfl); (case k1 => k_asm); (case k2 => k_asm); (case k3 => k_asm); (case k4 => k_asm); (case k5 => k_asm); (case k6 => exact rfl); (case k7 => is_list); (case k8 => assumption); (case k9 => omega); (case k10 => omega); (case k11 => omega); (case k12 => ktr_room); (case k13 => ktr_units); k_whole)
    intro x dx nn nc xs T k1 k2 k3 k4 k5 t0 tn tt tb1 hz1 tz1 F9 N9 hX hlt
    clear zF zN
    rw [hcd] at hX N9
    have hcl := cntQ_len (q := q) hr1
    have hcm := cntQ_mem (q := q) hr1 hA2
    have hsim : decide (((cntQ q (ks.length - r) r).length : Int) ≤ 1) = ((q : Int) + (r : Int) == 0) := by
      rw [hcl]
      by_cases h0 : 0 < r
      · rw [if_pos h0, decide_eq_false (by omega)]; exact (beq_eq_false_iff_ne.mpr (by omega)).symm
      · rw [if_neg h0]; by_cases h1 : q = 0
        · subst h1; rw [show r = 0 by omega]; rfl
        · rw [decide_eq_false (by omega)]; exact (beq_eq_false_iff_ne.mpr (by omega)).symm
    rw [hsim] at N9
    have hcol := fun size => col_deal (q := q) size hr1
    simp only [Int.natCast_add] at N9
    refine nameAll N9 (fun R hR => ?_)
    k_steps
    unfold Stop
    (with_reducible rename Fr _ _ _ _ => zF)
    (with_reducible rename News _ _ _ _ => zN)
    refine joinL R (cntQ q (ks.length - r) r) zF ?ways ?rest
    case ways =>
      intro Q1 hr
      subst hR
      have hpass : Passed := trivial
      by_cases h0 : 0 < r
      · rw [cntQ_pos hr1 h0] at hr
        k_steps
        (with_reducible rename Fr _ _ _ _ => zF)
        (with_reducible rename News _ _ _ _ => zN)
        rw [ifif] at zF
        exact hr _ _ _ _ zF (cb_drop zN (by kcj_all)) (by assumption)
      · rw [cntQ_nil hr1 h0] at hr
        k_steps
        (with_reducible rename Fr _ _ _ _ => zF)
        (with_reducible rename News _ _ _ _ => zN)
        exact hr _ _ _ _ zF (cb_drop zN (by kcj_all)) (by assumption)
    case rest =>
      clear zF zN
      intro Dc wsc hc tkc Fc Nc hIc
      subst hR
      have hwl := hIc.length
      have hcl2 : q + (if 0 < r then 2 else 1) ≤ 14 := by split <;> omega
      have hcl3 : (cntQ q (ks.length - r) r).length ≤ 14 := by omega
      k_steps
      all_goals (try (exact absurd rfl (by assumption)))
      all_goals (try (exact neqSelf (by assumption)))
      unfold Stop
      (with_reducible rename Fr _ _ _ _ => kF)
      (with_reducible rename News _ _ _ _ => kN)
      have zn := News.six kN
      refine nameFr kF (fun M0 hM0 kF => ?_)
      refine nameAll zn (fun Rt hRt => ?_)
      have zn2 := zn
      rw [hRt] at zn2
      refine loopRange (fun I (_ : Nat) (m : Str → Option Value) (ns : List (Addr × Obj)) => ns = Rt ∧ (∀ p ∈ Rt, p.1 ≠ I) ∧ ∀ z, z ≠ Str.ofString "size" → z ≠ Str.ofString "sizes" → m z = M0 z) rfl kF zn2 (by omega) (by omega) (by omega) (by omega) ?g1 ?g2 ?g3 ?g4
      case g1 =>
        intro I hI0
        exact ⟨rfl, fun p hp => Nat.ne_of_lt (hI0 p hp), fun _ _ _ => rfl⟩
      case g2 =>
        rintro I i m₁ ns ⟨rfl, h1, -⟩ p hp
        exact h1 p hp
      case g3 =>
        intro I i u m₁ news₁ hh tkk it hi hJ F N
        obtain ⟨hns, lI, hm⟩ := hJ
        rw [hns] at N
        clear hns news₁
        have em := map2 _ _ _ _ hm
        generalize m₁ (Str.ofString "size") = vc at em
        generalize m₁ (Str.ofString "sizes") = vc2 at em
        subst em
        clear hm
        generalize hJn : (fun (m : Str → Option Value) (ns : List (Addr × Obj)) => ns = Rt ∧ (∀ p ∈ Rt, p.1 ≠ I) ∧ ∀ z, z ≠ Str.ofString "size" → z ≠ Str.ofString "sizes" → m z = M0 z) = Jn
        generalize hM1 : M0 = M1 at hJn
        generalize hR1 : Rt = R1 at hJn
        subst hM0
        subst hRt
        clear kF zn zn2 kN
        have hcz : (r : Int) + (1 + (i : Int)) * (colI (1 + (i : Int)).toNat (cntQ q (ks.length - r) r) + ks.length) = (((ks.length : Int) - r) * ((q : Int).fdiv (1 + (i : Int)) + 1) + r * (((q : Int) + 1).fdiv (1 + (i : Int)) + 1)) * (1 + (i : Int)) + r := by
          have := hcol (1 + (i : Int)).toNat
          rwa [show (((1 + (i : Int)).toNat : Nat) : Int) = 1 + (i : Int) by omega] at this
        clear hcol
        have hlim : 0 ≤ (r : Int) ∧ (r : Int) ≤ 100 ∧ 0 ≤ (ks.length : Int) ∧ (ks.length : Int) ≤ 100 := by omega
        k_steps
        · exact absurd hcz (by assumption)
        · (with_reducible rename Fr _ _ _ _ => zF)
          (with_reducible rename News _ _ _ _ => zN)
          subst hJn hM1 hR1
          refine turnNext zF zN ⟨rfl, lI, fun z n1 n2 => ?_⟩ id
          simp only [if_neg n1, if_neg n2]
      case g4 =>
        intro I m' news' hz9 tz9 hJ F N
        obtain ⟨hns, lI, hm⟩ := hJ
        rw [hns] at N
        clear hns lI news'
        have em := map2 _ _ _ _ hm
        generalize m' (Str.ofString "size") = vc at em
        generalize m' (Str.ofString "sizes") = vc2 at em
        subst em
        clear hm
        subst hM0
        subst hRt
        clear kF zn zn2 kN hcol
        have hal := ahead_len (q := q) hr1
        have has := ahead_sum (q := q) hr1
        have hsA : q * ks.length + r = ks.sum := by exact_mod_cast hqs
        have hE1 := ahead_eq (q := q) hr1
        have hE2 := ahead_eq0 (q := q) hr1
        have hal2 : (aheadN q ks.length r ++ [0]).length = ks.length + 1 := by rw [List.length_append, hal]; rfl
        have has2 : (aheadN q ks.length r ++ [0]).sum = q * ks.length + r := by rw [List.sum_append, has]; rfl
        have hca := cnt_ahead (q := q) hr1
        have hn1 : ¬ (cntQ q (ks.length - r) r = cntOf (aheadN q ks.length r ++ [0]) ∧ (r : Int) = (r : Int)) := fun h => cnt_more hr1 h.1.symm
        have hn2 : ¬ (cntQ q (ks.length - r) r = cntQ q (ks.length - r) r ∧ (r : Int) = ((r + 1 : Nat) : Int)) := fun h => by have := h.2; omega
        k_steps
        (with_reducible rename Fr _ _ _ _ => zF)
        (with_reducible rename News _ _ _ _ => zN)
        k_here
        k_dflt (refine' lead_ctr _ _ _ (aheadN q ks.length r) (r) _ _ _ _ _ _ _ _ _ _ _ _ _ _ _ _ _ _ _ _ _ _ _ ?k1 ?k2 ?k3 ?k4 ?k5 ?k6 ?k7 ?k8 ?k9 ?k10 ?k11 ?kz ?k12 ?k13 ?_; (case kz => exact rfl); (case k1 => k_asm); (case k2 => k_asm); (case k3 => k_asm); (case k4 => k_asm); (case k5 => k_asm); (case k6 => exact rfl); (case k7 => is_list); (case k8 => exact castI (by assumption) hE1); (case k9 => omega); (case k10 => omega); (case k11 => omega); (case k12 => ktr_room); (case k13 => ktr_units); k_whole)
        clear zF zN
        intro x91 dx91 nn91 nc91 xs91 T91 k191 k291 k391 k491 k591 t091 tn91 tt91 tb91 hz91 tz91 F91 N91 hX91 hlt91
        rw [hca] at hX91 N91
        k_steps
        (with_reducible rename Fr _ _ _ _ => zF)
        (with_reducible rename News _ _ _ _ => zN)
        k_here
        k_dflt (refine' lead_ctr _ _ _ (aheadN q ks.length r) (r) _ _ _ _ _ _ _ _ _ _ _ _ _ _ _ _ _ _ _ _ _ _ _ ?k1 ?k2 ?k3 ?k4 ?k5 ?k6 ?k7 ?k8 ?k9 ?k10 ?k11 ?kz ?k12 ?k13 ?_; (case kz => exact rfl); (case k1 => k_asm); (case k2 => k_asm); (case k3 => k_asm); (case k4 => k_asm); (case k5 => k_asm); (case k6 => exact rfl); (case k7 => is_list); (case k8 => exact castI (by assumption) hE1); (case k9 => omega); (case k10 => omega); (case k11 => omega); (case k12 => ktr_room); (case k13 => ktr_units); k_whole)
        clear zF zN
        intro x92 dx92 nn92 nc92 xs92 T92 k192 k292 k392 k492 k592 t092 tn92 tt92 tb92 hz92 tz92 F92 N92 hX92 hlt92
        rw [hca] at hX92 N92
        k_steps
        (with_reducible rename Fr _ _ _ _ => zF)
        (with_reducible rename News _ _ _ _ => zN)
        k_here
        k_dflt (refine' lead_ctr _ _ _ (aheadN q ks.length r ++ [0]) (r) _ _ _ _ _ _ _ _ _ _ _ _ _ _ _ _ _ _ _ _ _ _ _ ?k1 ?k2 ?k3 ?k4 ?k5 ?k6 ?k7 ?k8 ?k9 ?k10 ?k11 ?kz ?k12 ?k13 ?_; (case kz => exact rfl); (case k1 => k_asm); (case k2 => k_asm); (case k3 => k_asm); (case k4 => k_asm); (case k5 => k_asm); (case k6 => exact rfl); (case k7 => is_list); (case k8 => exact castI (by assumption) hE2); (case k9 => omega); (case k10 => omega); (case k11 => omega); (case k12 => ktr_room); (case k13 => ktr_units); k_whole)
        clear zF zN
        intro x93 dx93 nn93 nc93 xs93 T93 k193 k293 k393 k493 k593 t093 tn93 tt93 tb93 hz93 tz93 F93 N93 hX93 hlt93
        k_steps
        (with_reducible rename Fr _ _ _ _ => zF)
        (with_reducible rename News _ _ _ _ => zN)
        k_here
        k_dflt (refine' lead_ctr _ _ _ (aheadN q ks.length r) (r + 1) _ _ _ _ _ _ _ _ _ _ _ _ _ _ _ _ _ _ _ _ _ _ _ ?k1 ?k2 ?k3 ?k4 ?k5 ?k6 ?k7 ?k8 ?k9 ?k10 ?k11 ?kz ?k12 ?k13 ?_; (case kz => exact rfl); (case k1 => k_asm); (case k2 => k_asm); (case k3 => k_asm); (case k4 => k_asm); (case k5 => k_asm); (case k6 => exact rfl); (case k7 => is_list); (case k8 => exact castI (by assumption) hE1); (case k9 => omega); (case k10 => omega); (case k11 => omega); (case k12 => ktr_room); (case k13 => ktr_units); k_whole)
        clear zF zN
        intro x94 dx94 nn94 nc94 xs94 T94 k194 k294 k394 k494 k594 t094 tn94 tt94 tb94 hz94 tz94 F94 N94 hX94 hlt94
        rw [hca] at hX94 N94
        k_steps
        (with_reducible rename Fr _ _ _ _ => zF)
        (with_reducible rename News _ _ _ _ => zN)
        have zz : News g' L' _ [(65, tab65 c1), (72, tab72 c2)] := cb_drop zN (by kcj_all)
        exact hret _ _ (keep_two hg zF.keep b1 b2 (zz _ (.head _)).1 (zz _ (.tail _ (.head _))).1)
end Mine
end
section -- KinE
open PySem PySem.W PySem.Calls PyProof.Rows PySem.SeqAt
namespace Mine
section
variable {prog : Program} {w : World} {A : Around} {E : Value → Shared → Prop} {s : Shared} {Q : Value → Shared → Prop} {h₀ : Heap} {L : Addr} {news nv : List (Addr × Obj)}
theorem inEmpty {f : Int → UInt64 × UInt64 × UInt64} {ps : List Int} {vs : List Value} {V e : Addr} {k : Nat} (N : News h₀ L s.heap news) (hV : (V, LCg.lst vs) ∈ news) (he : (e, W.listOf #[] k) ∈ news) (hc : ColsN f ps ps.length vs nv) (hnv : ∀ p ∈ nv, p ∈ news) (hu : A.units + 64 < cLine)
    (h : Q (.bool false) s) : wpAny (model prog w) A (compareOp .In (.ref e) (.ref V)) Q E s := by
  have gV := (N _ hV).1
  have ge := (N _ he).1
  refine in_listAt (l := V) (items := vs.toArray) (fun _ => false) ⟨_, gV, rfl, _, rfl⟩ ?_ ?_
  · intro y hy
    obtain ⟨j, hj, hyj⟩ := List.getElem_of_mem (show y ∈ vs by simpa using hy)
    have hjl : j < ps.length := by rw [← hc.1]; exact hj
    obtain ⟨d, t1, t2, t3, k', h1, h2⟩ := hc.2 j _ hjl (List.getElem?_eq_getElem hjl)
    rw [List.getElem?_eq_getElem hj, hyj] at h1
    cases h1
    have gd := (N _ (hnv _ h2)).1
    have hne : d ≠ e := by
      rintro rfl
      have := gd.symm.trans ge
      have h3 := congrArg (fun o : Option Obj => match o with | some ⟨_, _, .seq a _, _⟩ => a.size | _ => 0) this
      simp at h3
    refine EqAt.of_refs hne (RcAt.lists_lengths ⟨_, gd, rfl, _, rfl⟩ ⟨_, ge, rfl, _, rfl⟩ rfl ?_)
    have := units_in1 A
    omega
  · have : (vs.toArray.any fun _ => false) = false := by simp
    rw [this]; exact h
end
end Mine
end
section -- Kzc
open PySem PySem.W PySem.Calls PyProof.Rows PyProof.Rows.LCg PyProof.Rows.LCp
namespace Mine
section
variable {prog : Program} {w : World} {A : Around} {E : Value → Shared → Prop} {s : Shared} {h₀ : Heap} {L : Addr} {m : Str → Option Value} {env : Env}
/-- where a turn's element ends, the iterator's own objects kept -/
def ZEnd (h₀ : Heap) (L : Addr) (m : Str → Option Value) (its : List (Addr × Obj)) (C : Addr) (oC : Obj) (D : Addr) (ys : List Value) (Inv : List Value → List (Addr × Obj) → Prop) (s : Shared) (y : Value) (s' : Shared) : Prop :=
  ∃ h' tk nw', s' = { s with heap := h', toks := tk } ∧ Fr h₀ L h' m ∧ News h₀ L h' (its ++ (C, oC) :: (D, lst ys) :: nw') ∧ (∀ p ∈ nw', p.1 ∉ its.map (·.1) ∧ p.1 ≠ C ∧ p.1 ≠ D) ∧ Inv (ys ++ [y]) nw'
theorem loop_Z {elt iter : Expr} {x x₂ : Str} {px px₂ tp : Pos} {tk0} {scope : Scope} {cl : List (Str × Addr)} {pos : Pos} {I C D : Addr} {fp wr fpi : List Addr} {n : Nat} {Pt : Nat → Array Value → Prop} {St : Nat → Heap → Prop} {Mid : Nat → Addr → Heap → Prop} {s₂ : Shared} {R : Result → Shared → Prop}
    (W : WalksT prog w A I fp wr n Pt St Mid) (hsz : n ≤ sizeLine) (hh : A.handled = none)
    (hP : ∀ i vals, Pt i vals → ∃ v₁ v₂, vals = #[v₁, v₂])
    (hlive : ∀ i h, St i h → ∃ its : List (Addr × Obj), its.map (·.1) = fpi ∧ ∀ p ∈ its, h.get? p.1 = some p.2)
    (Inv : Nat → List Value → List (Addr × Obj) → Prop)
    (hfp : ∀ b ∈ fp, b ∈ fpi ∨ ∃ o, ∀ i ys nw, Inv i ys nw → (b, o) ∈ nw) (hwr : ∀ b ∈ wr, b ∈ fpi)
    (hI0 : ∀ b ∈ fpi, h₀.get? b = none ∧ b ≠ L ∧ b ≠ C ∧ b ≠ D) (hCD : C ≠ D) (hCL : C ≠ L) (hDL : D ≠ L) (hC₀ : h₀.get? C = none) (hD₀ : h₀.get? D = none)
    (hkind : scope.kind = .function) (hx : scope.names.lookup x = some .local) (hx₂ : scope.names.lookup x₂ = some .local) (hxx : x ≠ x₂)
    (turn : ∀ (i : Nat) ys nw v₁ v₂ its oC m₂ h tk (E' : Value → Shared → Prop), i < n → Inv i ys nw → Pt i #[v₁, v₂] → its.map (·.1) = fpi → NsObj oC m₂ → m₂ x = some v₁ → m₂ x₂ = some v₂ → Fr h₀ L h m → News h₀ L h (its ++ (C, oC) :: (D, lst ys) :: nw) →
      (∀ p ∈ nw, p.1 ∉ fpi ∧ p.1 ≠ C ∧ p.1 ≠ D) →
      wpAny (model prog w) A (eval elt (compEnvC scope cl C env)) (ZEnd h₀ L m its C oC D ys (Inv (i + 1)) { s₂ with heap := h, toks := tk }) E' { s₂ with heap := h, toks := tk })
    (done : ∀ ys nw h tk m', Inv n ys nw → Fr h₀ L h m → News h₀ L h ((D, lst ys) :: nw) → h.Ns C m' → (∀ p ∈ nw, p.1 ≠ C ∧ p.1 ≠ D) → R (.ok .next) { s₂ with heap := h, toks := tk })
    {nw₀ : List (Addr × Obj)} {m₀ : Str → Option Value} (J0 : Inv 0 [] nw₀) (hst : St 0 s₂.heap) (F : Fr h₀ L s₂.heap m) (N : News h₀ L s₂.heap ((D, lst []) :: nw₀)) (hns : s₂.heap.Ns C m₀) (off : ∀ p ∈ nw₀, p.1 ∉ fpi ∧ p.1 ≠ C ∧ p.1 ≠ D) :
    codeAny (model prog w) A (.compLoop (.ListComp elt [⟨.Tuple [.Name x px, .Name x₂ px₂] tk0 tp, iter, [], 0⟩] scope pos) 0 (.ref I) (.ref D) (compEnvC scope cl C env)) R s₂ := by
  refine codeAny_compLoop_pair
    (fun k s' => ∃ h' tk i ys m' nw, s' = { s₂ with heap := h', toks := tk } ∧ i ≤ n ∧ k = n + 1 - i ∧ ys.length = i ∧ St i h' ∧ Fr h₀ L h' m ∧ h'.Ns C m' ∧ News h₀ L h' ((D, lst ys) :: nw) ∧ (∀ p ∈ nw, p.1 ∉ fpi ∧ p.1 ≠ C ∧ p.1 ≠ D) ∧ Inv i ys nw)
    ?_ (n + 1) ⟨s₂.heap, s₂.toks, 0, [], m₀, nw₀, rfl, Nat.zero_le _, rfl, rfl, hst, F, hns, N, off, J0⟩
  rintro k s' ⟨h', tk, i, ys, m', nw, rfl, hi, rfl, hyl, hst', F', hn', N', off', J⟩
  have hCf : C ∉ fpi := fun hm => (hI0 C hm).2.2.1 rfl
  have hDf : D ∉ fpi := fun hm => (hI0 D hm).2.2.2 rfl
  have frB : ∀ {ha hb : Heap}, Fr h₀ L ha m → (∀ b o, b ∉ wr → ha.get? b = some o → hb.get? b = some o) → Fr h₀ L hb m := fun F hk =>
    ⟨F.ns.at' fun o e => hk L o (fun hm => (hI0 L (hwr _ hm)).2.1 rfl) e, fun b o e => hk b o (fun hm => by have := (hI0 b (hwr _ hm)).1; rw [this] at e; cases e) (F.keep b o e), F.above⟩
  have nwB : ∀ {ha hb : Heap} {ns : List (Addr × Obj)}, News h₀ L ha ns → (∀ b o, b ∉ wr → ha.get? b = some o → hb.get? b = some o) → (∀ p ∈ ns, p.1 ∉ fpi) → News h₀ L hb ns := fun N hk ho p hp =>
    ⟨hk _ _ (fun hm => ho p hp (hwr _ hm)) (N p hp).1, (N p hp).2⟩
  have offD : ∀ p ∈ (D, lst ys) :: nw, p.1 ∉ fpi := fun p hp => by
    rcases List.mem_cons.mp hp with rfl | hp
    · exact hDf
    · exact (off' p hp).1
  by_cases hlt : i < n
  · refine W.item i _ _ _ hlt hst' fun T vals h₂ tk₂ hPv hT hTt hmid hk₂ => ?_
    obtain ⟨v₁, v₂, rfl⟩ := hP _ _ hPv
    refine W.go _ _ _ i T _ _ _ hmid fun h₄ hst₄ hk₄ => ?_
    have hTw := W.apart _ _ _ hmid
    have ht : IsTup h₄ T #[v₁, v₂] := by
      obtain ⟨o, ho, hc, k, hd⟩ := hTt
      exact ⟨o, hk₄ _ _ hTw ho, hc, k, hd⟩
    have k24 : ∀ b o, b ∉ wr → h'.get? b = some o → h₄.get? b = some o := fun b o hb e => hk₄ b o hb (hk₂ b o hb e)
    have F₄ := frB F' k24
    have N₄ := nwB N' k24 offD
    have hn₄ := hn'.at' fun o e => k24 C o (fun hm => hCf (hwr _ hm)) e
    refine assign_Tuple_tuple hh ht rfl rfl fun h₅ he => ?_
    have he' : ∀ b o, h₄.get? b = some o → h₅.get? b = some o := fun b o e => he b o (Nat.ne_of_lt (Heap.lt_size e)) e
    refine assignInOrder_cons (wpAny_assign_Name (wpAny_storeName_local (lookup_relabel_local hx) (hn₄.at' fun o e => he' _ o e) (fun h₆ hn₆ hs₆ => ?_) (by simp [compEnvC, relabel, hkind])))
    refine assignInOrder_cons (wpAny_assign_Name (wpAny_storeName_local (lookup_relabel_local hx₂) hn₆ (fun h₇ hn₇ hs₇ => ?_) (by simp [compEnvC, relabel, hkind])))
    refine assignInOrder_nil ?_
    have k47 : ∀ b o, b ≠ C → h₄.get? b = some o → h₇.get? b = some o := fun b o hb e => hs₇.extBut b o hb (hs₆.extBut b o hb (he' b o e))
    have F₇ : Fr h₀ L h₇ m := ((F₄.keeps he').change hs₆ hCL hC₀).change hs₇ hCL hC₀
    have N₇ : News h₀ L h₇ ((D, lst ys) :: nw) := fun p hp => ⟨k47 _ _ (by
      rcases List.mem_cons.mp hp with rfl | hp
      · exact Ne.symm hCD
      · exact (off' p hp).2.1) (N₄ p hp).1, (N₄ p hp).2⟩
    have hfC : ∀ b ∈ fp, b ≠ C := fun b hb => by
      rcases hfp b hb with h | ⟨o, h⟩
      · exact (hI0 b h).2.2.1
      · exact (off' _ (h _ _ _ J)).2.1
    have hst₇ : St (i + 1) h₇ := W.frame _ _ _ hst₄ fun b hb o e => k47 b o (hfC b hb) e
    obtain ⟨its, hits, hitg⟩ := hlive _ _ hst₇
    obtain ⟨oC, heC, hoC⟩ := ns_obj hn₇
    have Nall : News h₀ L h₇ (its ++ (C, oC) :: (D, lst ys) :: nw) := fun p hp => by
      rcases List.mem_append.mp hp with hp | hp
      · have hm : p.1 ∈ fpi := hits ▸ List.mem_map_of_mem hp
        exact ⟨hitg p hp, (hI0 _ hm).2.1, (hI0 _ hm).1⟩
      · rcases List.mem_cons.mp hp with rfl | hp
        · exact ⟨heC, hCL, hC₀⟩
        · exact N₇ p hp
    refine wpAny_mono (turn i ys nw v₁ v₂ its oC _ h₇ _ _ hlt J hPv hits hoC (by simp [hxx]) (by simp) F₇ Nall off') (fun y s₄ h₄ => ?_) fun _ _ e => e
    obtain ⟨h₈, tk₈, nw₈, rfl, F₈, N₈, off₈, J₈⟩ := h₄
    rw [hits] at off₈
    have zC := (N₈ (C, oC) (List.mem_append_right _ (.head _))).1
    have zD := (N₈ (D, lst ys) (List.mem_append_right _ (.tail _ (.head _)))).1
    have N₈' : News h₀ L h₈ nw₈ := fun p hp => N₈ p (List.mem_append_right _ (.tail _ (.tail _ hp)))
    have hst₈ : St (i + 1) h₈ := W.frame _ _ _ hst₇ fun b hb o e => by
      by_cases hm : b ∈ fpi
      · obtain ⟨p, hp, rfl⟩ := List.mem_map.mp (hits ▸ hm : b ∈ its.map (·.1))
        rw [hitg p hp] at e; cases e
        exact (N₈ p (List.mem_append_left _ hp)).1
      · rcases hfp b hb with h | ⟨o1, h1⟩
        · exact absurd h hm
        · have g1 : h₇.get? b = some o1 := (N₇ _ (.tail _ (h1 _ _ _ J))).1
          rw [g1] at e; cases e
          exact (N₈' _ (h1 _ _ _ J₈)).1
    refine append_at (hsz := by show ys.toArray.size ≤ sizeLine; rw [List.size_toArray, hyl]; exact Nat.le_trans hi hsz) zD fun h₉ hs₉ hD₉ => ?_
    refine ⟨n + 1 - (i + 1), by omega, h₉, tk₈, i + 1, ys ++ [y], _, nw₈, rfl, hlt, rfl, by rw [List.length_append, List.length_singleton, hyl], W.frame _ _ _ hst₈ fun b hb o e => hs₉.extBut b o ?_ e, F₈.change hs₉ hDL hD₀, (hoC.ns zC).sameBut hs₉ hCD, fun p hp => ?_, off₈, J₈⟩
    · rcases hfp b hb with h | ⟨o2, h2⟩
      · exact (hI0 b h).2.2.2
      · exact (off₈ _ (h2 _ _ _ J₈)).2.2
    · rcases List.mem_cons.mp hp with rfl | hp
      · exact ⟨hD₉.trans (congrArg some (lst_snoc ys y)), hDL, hD₀⟩
      · exact ⟨hs₉.extBut _ _ (off₈ p hp).2.2 (N₈' p hp).1, (N₈' p hp).2⟩
  · obtain rfl : i = n := Nat.le_antisymm hi (Nat.not_lt.mp hlt)
    refine W.done _ _ _ hst' fun h₂ tk₂ hk₂ => ?_
    exact done ys nw h₂ tk₂ _ J (frB F' hk₂) (nwB N' hk₂ offD) (hn'.at' fun o e => hk₂ _ o (fun hm => hCf (hwr _ hm)) e) fun p hp => (off' p hp).2
/-- a zip of two lists as a comprehension's source, with what its turns keep -/
def ZSrc (prog : Program) (w : World) (A : Around) (h₀ : Heap) (L : Addr) (m : Str → Option Value) (env : Env) (elt : Expr) (x x₂ : Str) (scope : Scope) (cl : List (Str × Addr)) (Q : Value → Shared → Prop) (xv : Value) (s₁ : Shared) : Prop :=
  ∃ (b l1 l2 : Nat) (o1 o2 : Obj) (xs ys : Array Value) (nw₀ : List (Addr × Obj)) (Inv : Nat → List Value → List (Addr × Obj) → Prop),
    xv = .ref (b + 4) ∧ s₁.heap.objs.size = b + 5 ∧ IsZip s₁.heap (b + 4) (b + 2) (b + 3) .none ∧ IsPair s₁.heap (b + 2) (.ref b) (.ref (b + 1)) ∧ IsPair s₁.heap (b + 3) .none .none ∧ s₁.heap.IsListIter b l1 0 ∧ s₁.heap.IsListIter (b + 1) l2 0 ∧
    s₁.heap.IsList l1 xs ∧ s₁.heap.IsList l2 ys ∧ min xs.size ys.size ≤ sizeLine ∧ Fr h₀ L s₁.heap m ∧ News h₀ L s₁.heap nw₀ ∧ (∀ p ∈ nw₀, p.1 < b) ∧ L < b ∧ h₀.objs.size ≤ b ∧ l1 < b ∧ l2 < b ∧
    Inv 0 [] nw₀ ∧ (∀ i ys' nw, Inv i ys' nw → (l1, o1) ∈ nw ∧ (l2, o2) ∈ nw) ∧
    (∀ C D (i : Nat) zs nw v₁ v₂ its oC m₂ h tk (E' : Value → Shared → Prop), i < min xs.size ys.size → Inv i zs nw → xs[i]? = some v₁ → ys[i]? = some v₂ → its.map (·.1) = [b + 4, b + 2, b + 3, b, b + 1] → NsObj oC m₂ → m₂ x = some v₁ → m₂ x₂ = some v₂ → Fr h₀ L h m → News h₀ L h (its ++ (C, oC) :: (D, lst zs) :: nw) →
      (∀ p ∈ nw, p.1 ∉ [b + 4, b + 2, b + 3, b, b + 1] ∧ p.1 ≠ C ∧ p.1 ≠ D) →
      wpAny (model prog w) A (eval elt (compEnvC scope cl C env)) (ZEnd h₀ L m its C oC D zs (Inv (i + 1)) { s₁ with heap := h, toks := tk }) E' { s₁ with heap := h, toks := tk }) ∧
    (∀ D zs nw h tk, Inv (min xs.size ys.size) zs nw → Fr h₀ L h m → News h₀ L h ((D, lst zs) :: nw) → (∀ p ∈ nw, p.1 ≠ D) → Q (.ref D) { s₁ with heap := h, toks := tk })
theorem ListComp_Z {elt iter : Expr} {x x₂ : Str} {px px₂ tp : Pos} {tk0} {scope : Scope} {cl : List (Str × Addr)} {pos : Pos} {Q : Value → Shared → Prop} (hh : A.handled = none)
    (hclos : closureFor scope env = pure cl) (hcell : ∀ y ∈ scope.names, y.2 ≠ .cell) (hkind : scope.kind = .function)
    (hnames : ∀ y ∈ scope.names, y.2 = .local → scope.names.lookup y.1 = some .local) (hx : scope.names.lookup x = some .local) (hx₂ : scope.names.lookup x₂ = some .local) (hxx : x ≠ x₂)
    (h : wpAny (model prog w) A (eval iter env) (ZSrc prog w A h₀ L m env elt x x₂ scope cl Q) E s)
    (hs : ∀ x, foldedSetIterable iter env x = pure x := by intro _; rfl) :
    wpAny (model prog w) A (eval (.ListComp elt [⟨.Tuple [.Name x px, .Name x₂ px₂] tk0 tp, iter, [], 0⟩] scope pos) env) Q E s := by
  rw [eval_ListComp]
  refine wpAny_comprehension_free (use := none) rfl hs hclos hkind hnames (wpAny_mono h (fun xv s₁ h₁ => ?_) fun _ _ e => e)
  obtain ⟨b, l1, l2, o1, o2, xs, ys, nw₀, Inv, rfl, hb, hz, hTI, hTO, hi1, hi2, hl1, hl2, hsz, F, N, hlt, hLb, hhb, hl1b, hl2b, J0, hkeep, turn, fin⟩ := h₁
  have Dz : ZipApart (b + 4) (b + 2) (b + 3) b (b + 1) l1 l2 := ktu_apart _ _ _ hl1b hl2b
  have W := WalksT.zip2 (prog := prog) (w := w) hh (b + 4) (b + 2) (b + 3) b (b + 1) l1 l2 Dz xs ys
  refine wpAny_pyIter_zip hz ?_
  refine wpAny_newObj_type (wpAny_newFunctionEnv hcell (by intro y hy; simp at hy) (fun h₁ hns₁ hsb₁ => ?_) hkind)
  dsimp only at hns₁ hsb₁ ⊢
  generalize hH2 : s₁.heap.push { cls := .type "list", dict := none, data := .seq ([] : List Value).toArray } = H2 at hns₁ hsb₁ ⊢
  have hC : H2.objs.size = b + 6 := by rw [← hH2, Heap.size_push, hb]
  have hD : s₁.heap.objs.size = b + 5 := hb
  have old : ∀ a o, s₁.heap.get? a = some o → h₁.get? a = some o := fun a o e => hsb₁.extBut a o (by have := Heap.lt_size e; rw [hC]; rw [hb] at this; exact Nat.ne_of_lt (Nat.lt_succ_of_lt this)) (Heap.get?_push_of_some _ (hH2 ▸ Heap.get?_push_of_some _ e))
  have hDg : h₁.get? s₁.heap.objs.size = some (lst []) := hsb₁.extBut _ _ (by rw [hC, hb]; exact Nat.ne_of_lt (Nat.lt_succ_self _)) (Heap.get?_push_of_some _ (hH2 ▸ Heap.get?_push_size _ rfl))
  have none₀ : ∀ a : Nat, b ≤ a → h₀.get? a = none := fun a ha => by
    cases e : h₀.get? a with
    | none => rfl
    | some o => exact absurd (Nat.lt_of_lt_of_le (Heap.lt_size e) hhb) (Nat.not_lt.mpr ha)
  rw [hC] at hns₁ ⊢
  rw [hD] at hDg ⊢
  have loop : ∀ s₃ : Shared, s₃ = { s₁ with heap := h₁, toks := s₁.toks + ([] : List (Str × Value)).length } →
      codeAny (model prog w) A (.compLoop (.ListComp elt [⟨.Tuple [.Name x px, .Name x₂ px₂] tk0 tp, iter, [], 0⟩] scope pos) 0 (.ref (b + 4)) (.ref (b + 5)) (compEnvC scope cl (b + 6) env))
        (compPost (model prog w) A E none Q (.ref (b + 5)) (b + 6)) s₃ := by
    rintro s₃ rfl
    have hst : IsZip h₁ (b + 4) (b + 2) (b + 3) .none ∧ IsPair h₁ (b + 2) (.ref b) (.ref (b + 1)) ∧ (∃ a c, IsPair h₁ (b + 3) a c) ∧ h₁.IsListIter b l1 0 ∧ h₁.IsListIter (b + 1) l2 0 ∧ h₁.IsList l1 xs ∧ h₁.IsList l2 ys :=
      ⟨old _ _ hz, old _ _ hTI, ⟨_, _, old _ _ hTO⟩, hi1.at fun o e => old _ o e, hi2.at fun o e => old _ o e, hl1.at fun o e => old _ o e, hl2.at fun o e => old _ o e⟩
    refine loop_Z (C := b + 6) (D := b + 5) (fpi := [b + 4, b + 2, b + 3, b, b + 1]) W hsz hh (fun i vals ⟨v, u, _, _, e⟩ => ⟨v, u, e⟩) ?live Inv ?fp ?wr ?i0 ?cd ?cl ?dl (none₀ _ (Nat.le_add_right _ _)) (none₀ _ (Nat.le_add_right _ _)) hkind hx hx₂ hxx ?turn ?done J0 hst (F.keeps old) ?news hns₁ ?off
    case live =>
      rintro i h ⟨hz, hTI, ⟨a, c, hTO⟩, ⟨q1, ho1, _⟩, ⟨q2, ho2, _⟩, _⟩
      exact ⟨[(b + 4, _), (b + 2, _), (b + 3, _), (b, q1), (b + 1, q2)], rfl, fun p hp => by
        simp only [List.mem_cons, List.not_mem_nil, or_false] at hp
        rcases hp with rfl | rfl | rfl | rfl | rfl
        · exact hz
        · exact hTI
        · exact hTO
        · exact ho1
        · exact ho2⟩
    case fp =>
      intro a ha
      simp only [List.mem_cons, List.not_mem_nil, or_false] at ha ⊢
      rcases ha with h | h | h | h | h | rfl | rfl
      · exact .inl (by simp [h])
      · exact .inl (by simp [h])
      · exact .inl (by simp [h])
      · exact .inl (by simp [h])
      · exact .inl (by simp [h])
      · exact .inr ⟨o1, fun i ys' nw J => (hkeep i ys' nw J).1⟩
      · exact .inr ⟨o2, fun i ys' nw J => (hkeep i ys' nw J).2⟩
    case wr =>
      intro a ha
      simp only [List.mem_cons, List.not_mem_nil, or_false] at ha ⊢
      rcases ha with h | h | h | h <;> simp [h]
    case i0 =>
      intro a ha
      have ha' : b ≤ a ∧ a ≤ b + 4 := by
        simp only [List.mem_cons, List.not_mem_nil, or_false] at ha
        have g : ∀ c : Nat, a = b + c → c ≤ 4 → b ≤ a ∧ a ≤ b + 4 := by intro c e hc; rw [e]; exact ⟨Nat.le_add_right _ _, Nat.add_le_add_left hc _⟩
        rcases ha with h | h | h | h | h
        · exact g 4 h (by decide)
        · exact g 2 h (by decide)
        · exact g 3 h (by decide)
        · exact g 0 h (by decide)
        · exact g 1 h (by decide)
      refine ⟨none₀ a ha'.1, fun e => ?_, fun e => ?_, fun e => ?_⟩
      · rw [e] at ha'; exact absurd (Nat.lt_of_lt_of_le hLb ha'.1) (Nat.lt_irrefl _)
      · rw [e] at ha'; exact absurd (Nat.le_of_add_le_add_left ha'.2) (by decide)
      · rw [e] at ha'; exact absurd (Nat.le_of_add_le_add_left ha'.2) (by decide)
    case cd => exact Nat.ne_of_gt (Nat.lt_succ_self _)
    case cl => exact Nat.ne_of_gt (Nat.lt_of_lt_of_le hLb (Nat.le_add_right _ _))
    case dl => exact Nat.ne_of_gt (Nat.lt_of_lt_of_le hLb (Nat.le_add_right _ _))
    case turn =>
      rintro i zs nw v₁ v₂ its oC m₂ h tk E' hi J ⟨v, u, hv, hu, e⟩ hits hC hm1 hm2 F' N' off'
      have e1 : v₁ = v := by have := congrArg (fun a : Array Value => a[0]?) e; simpa using this
      have e2 : v₂ = u := by have := congrArg (fun a : Array Value => a[1]?) e; simpa using this
      subst e1 e2
      exact turn _ _ i zs nw v₁ v₂ its oC m₂ h tk E' hi J hv hu hits hC hm1 hm2 F' N' off'
    case done =>
      intro zs nw h tk m' J F' N' hn off'
      refine ⟨m', hn, fun h'' hs'' => ?_⟩
      have hCL : b + 6 ≠ L := Nat.ne_of_gt (Nat.lt_of_lt_of_le hLb (Nat.le_add_right _ _))
      refine fin (b + 5) zs nw h'' tk J (F'.change hs'' hCL (none₀ _ (Nat.le_add_right _ _))) (fun p hp => ⟨hs''.extBut _ _ ?_ (N' p hp).1, (N' p hp).2⟩) fun p hp => (off' p hp).2
      rcases List.mem_cons.mp hp with rfl | hp
      · exact Nat.ne_of_lt (Nat.lt_succ_self _)
      · exact (off' p hp).1
    case news =>
      intro p hp
      rcases List.mem_cons.mp hp with rfl | hp
      · exact ⟨hDg, Nat.ne_of_gt (Nat.lt_of_lt_of_le hLb (Nat.le_add_right _ _)), none₀ _ (Nat.le_add_right _ _)⟩
      · exact ⟨old _ _ (N p hp).1, (N p hp).2⟩
    case off =>
      intro p hp
      have hb' : (p.1 : Nat) < b := hlt p hp
      refine ⟨fun hm => ?_, Nat.ne_of_lt (Nat.lt_of_lt_of_le hb' (Nat.le_add_right _ _)), Nat.ne_of_lt (Nat.lt_of_lt_of_le hb' (Nat.le_add_right _ _))⟩
      simp only [List.mem_cons, List.not_mem_nil, or_false] at hm
      have g : ∀ c : Nat, p.1 = b + c → False := fun c e => by rw [e] at hb'; exact absurd hb' (Nat.not_lt.mpr (Nat.le_add_right _ _))
      rcases hm with h | h | h | h | h
      · exact g 4 h
      · exact g 2 h
      · exact g 3 h
      · exact g 0 h
      · exact g 1 h
  exact codeAny_compStart_list (loop _ rfl) (wpAny_pyIter_zip (s := { s₁ with heap := h₁, toks := _ }) (old _ _ hz) (loop _ rfl))
end
end Mine
end
section -- Kread2
open PySem PySem.W PySem.Calls PyProof.Rows
namespace Mine
/-- what does not change of two filled code tables -/
structure StaT (c1 : Addr) (oc1 : Obj) (vs1 : Array Value) (tq1 : Tok) (c2 : Addr) (oc2 : Obj) (vs2 : Array Value) (tq2 : Tok) : Prop where
  n1 : c1 ≠ 65
  n2 : c1 ≠ 72
  n3 : c2 ≠ 65
  n4 : c2 ≠ 72
  d1 : oc1.data = .fields vs1
  v1 : vs1[1]? = some (.str i2dQ tq1)
  d2 : oc2.data = .fields vs2
  v2 : vs2[1]? = some (.str d2iQ tq2)
abbrev tabsR (c1 : Addr) (oc1 : Obj) (c2 : Addr) (oc2 : Obj) (K0 : List (Addr × Obj)) : List (Addr × Obj) := (72, tab72 c2) :: (65, tab65 c1) :: (c1, oc1) :: (c2, oc2) :: K0
/-- between the turns that read the hues -/
def RInv (K0 : List (Addr × Obj)) (ps : List Int) (T : Int) (i : Nat) (zs : List Value) (nw : List (Addr × Obj)) : Prop :=
  (i = 0 ∧ zs = [] ∧ nw = (72, tabObj #[]) :: (65, tabObj #[]) :: K0) ∨
  ∃ c1 oc1 vs1 tq1 c2 oc2 vs2 tq2, StaT c1 oc1 vs1 tq1 c2 oc2 vs2 tq2 ∧ nw = tabsR c1 oc1 c2 oc2 K0 ∧ (∀ q ∈ K0, c1 ≠ q.1 ∧ c2 ≠ q.1) ∧ IntsAre zs ((ps.take i).map (· % T))
theorem StaT.fa {c1 : Addr} {oc1 : Obj} {vs1 : Array Value} {tq1 : Tok} {c2 : Addr} {oc2 : Obj} {vs2 : Array Value} {tq2 : Tok} {h₀ h : Heap} {L : Addr} {news : List (Addr × Obj)} (x : StaT c1 oc1 vs1 tq1 c2 oc2 vs2 tq2) (N : News h₀ L h news)
    (m1 : (65, tab65 c1) ∈ news) (m2 : (72, tab72 c2) ∈ news) (m3 : (c1, oc1) ∈ news) (m4 : (c2, oc2) ∈ news) : TFa h c1 oc1 vs1 tq1 c2 oc2 vs2 tq2 :=
  ⟨x.n1, x.n2, x.n3, x.n4, (N _ m1).1, (N _ m2).1, (N _ m3).1, x.d1, x.v1, (N _ m4).1, x.d2, x.v2⟩
theorem takeMod {ps : List Int} {T p : Int} {i : Nat} {zs : List Value} {tt : Tok} (h : IntsAre zs ((ps.take i).map (· % T))) (hp : ps[i]? = some p) : IntsAre (zs ++ [.int (p % T) tt]) ((ps.take (i + 1)).map (· % T)) := by
  rw [List.take_add_one, hp, List.map_append]
  exact IntsAre.append h (.cons _ tt .nil)
section
variable {h₀ h hz : Heap} {L C D3 : Addr} {m : Str → Option Value} {its K0 : List (Addr × Obj)} {oC : Obj} {zs : List Value} {ps : List Int} {T p : Int} {i : Nat} {s : Shared} {tt : Tok} {tz : Nat}
theorem zEnd0 (F : Fr h₀ L h m) (N : News h₀ L h (its ++ (C, oC) :: (D3, LCg.lst []) :: (72, tabObj #[]) :: (65, tabObj #[]) :: K0)) (off : ∀ p ∈ (72, tabObj #[]) :: (65, tabObj #[]) :: K0, p.1 ∉ its.map (·.1) ∧ p.1 ≠ C ∧ p.1 ≠ D3)
    (hK : ∀ p ∈ K0, p.1 ≠ 65 ∧ p.1 ≠ 72) (kb : KeepBut [65, 72] h hz) (t0 : TF0 h hz) (hp : ps[0]? = some p) : ZEnd h₀ L m its C oC D3 [] (RInv K0 ps T 1) s (.int (p % T) tt) { s with heap := hz, toks := tz } := by
  obtain ⟨c1, oc1, vs1, tq1, c2, oc2, vs2, tq2, t, f1, f2⟩ := t0
  have o72 := off _ (.head _)
  have o65 := off _ (.tail _ (.head _))
  have m72 : ((72 : Addr), tabObj #[]) ∈ its ++ (C, oC) :: (D3, LCg.lst []) :: (72, tabObj #[]) :: (65, tabObj #[]) :: K0 := List.mem_append_right _ (.tail _ (.tail _ (.head _)))
  have m65 : ((65 : Addr), tabObj #[]) ∈ its ++ (C, oC) :: (D3, LCg.lst []) :: (72, tabObj #[]) :: (65, tabObj #[]) :: K0 := List.mem_append_right _ (.tail _ (.tail _ (.tail _ (.head _))))
  have ha : ∀ a ∈ [(65 : Addr), 72], ∃ o, (a, o) ∈ its ++ (C, oC) :: (D3, LCg.lst []) :: (72, tabObj #[]) :: (65, tabObj #[]) :: K0 := by
    intro a ha
    rcases List.mem_cons.mp ha with rfl | ha
    · exact ⟨_, m65⟩
    · rw [List.mem_singleton.mp ha]; exact ⟨_, m72⟩
  have notTab : ∀ q : Addr, q ≠ 65 → q ≠ 72 → q ∉ [(65 : Addr), 72] := fun q h1 h2 hm => by
    rcases List.mem_cons.mp hm with e | hm
    · exact h1 e
    · exact h2 (List.mem_singleton.mp hm)
  have fresh : ∀ c : Addr, h.get? c = none → ∀ q ∈ its ++ (C, oC) :: (D3, LCg.lst []) :: (72, tabObj #[]) :: (65, tabObj #[]) :: K0, c ≠ q.1 := fun c hc q hq e => by
    have := (N q hq).1; rw [← e, hc] at this; cases this
  refine ⟨hz, tz, tabsR c1 oc1 c2 oc2 K0, rfl, frBut F N kb ha, newsBut F N kb ha _ ?_, ?_, .inr ⟨c1, oc1, vs1, tq1, c2, oc2, vs2, tq2, ⟨t.n1, t.n2, t.n3, t.n4, t.d1, t.v1, t.d2, t.v2⟩, rfl, (fun q hq => ⟨fresh _ f1 q (List.mem_append_right _ (.tail _ (.tail _ (.tail _ (.tail _ hq))))), fresh _ f2 q (List.mem_append_right _ (.tail _ (.tail _ (.tail _ (.tail _ hq)))))⟩), takeMod (by simpa using IntsAre.nil) hp⟩⟩
  · intro q hq
    rcases List.mem_append.mp hq with hq | hq
    · have h9 := List.mem_map_of_mem (f := fun x : Addr × Obj => x.1) hq
      refine .inl ⟨List.mem_append_left _ hq, notTab _ (fun e => o65.1 ?_) (fun e => o72.1 ?_)⟩
      · rw [e] at h9; exact h9
      · rw [e] at h9; exact h9
    · simp only [tabsR, List.mem_cons] at hq
      rcases hq with rfl | rfl | rfl | rfl | rfl | rfl | hq
      · exact .inl ⟨List.mem_append_right _ (.head _), notTab _ (fun e => o65.2.1 e.symm) (fun e => o72.2.1 e.symm)⟩
      · exact .inl ⟨List.mem_append_right _ (.tail _ (.head _)), notTab _ (fun e => o65.2.2 e.symm) (fun e => o72.2.2 e.symm)⟩
      · exact .inr (.inl ⟨.tail _ (.head _), t.g2⟩)
      · exact .inr (.inl ⟨.head _, t.g1⟩)
      · exact .inr (.inr ⟨f1, t.o1⟩)
      · exact .inr (.inr ⟨f2, t.o2⟩)
      · exact .inl ⟨List.mem_append_right _ (.tail _ (.tail _ (.tail _ (.tail _ hq)))), notTab _ (hK _ hq).1 (hK _ hq).2⟩
  · intro q hq
    simp only [tabsR, List.mem_cons] at hq
    have fr : ∀ c : Addr, h.get? c = none → c ∉ its.map (·.1) ∧ c ≠ C ∧ c ≠ D3 := fun c hc => by
      have f := fresh c hc
      refine ⟨fun hm => ?_, f (C, oC) (List.mem_append_right _ (.head _)), f (D3, LCg.lst []) (List.mem_append_right _ (.tail _ (.head _)))⟩
      obtain ⟨q, hq, e⟩ := List.mem_map.mp hm
      exact f q (List.mem_append_left _ hq) e.symm
    rcases hq with rfl | rfl | rfl | rfl | hq
    · exact o72
    · exact o65
    · exact fr _ f1
    · exact fr _ f2
    · exact off q (.tail _ (.tail _ hq))
theorem zEnd1 {c1 : Addr} {oc1 : Obj} {vs1 : Array Value} {tq1 : Tok} {c2 : Addr} {oc2 : Obj} {vs2 : Array Value} {tq2 : Tok} (x : StaT c1 oc1 vs1 tq1 c2 oc2 vs2 tq2) (F : Fr h₀ L h m) (N : News h₀ L h (its ++ (C, oC) :: (D3, LCg.lst zs) :: tabsR c1 oc1 c2 oc2 K0)) (off : ∀ p ∈ tabsR c1 oc1 c2 oc2 K0, p.1 ∉ its.map (·.1) ∧ p.1 ≠ C ∧ p.1 ≠ D3)
    (kb : Keep h hz) (hc : ∀ q ∈ K0, c1 ≠ q.1 ∧ c2 ≠ q.1) (hI : IntsAre zs ((ps.take i).map (· % T))) (hp : ps[i]? = some p) : ZEnd h₀ L m its C oC D3 zs (RInv K0 ps T (i + 1)) s (.int (p % T) tt) { s with heap := hz, toks := tz } :=
  ⟨hz, tz, tabsR c1 oc1 c2 oc2 K0, rfl, frKeep F kb, newsKeep N kb, off, .inr ⟨c1, oc1, vs1, tq1, c2, oc2, vs2, tq2, x, rfl, hc, takeMod hI hp⟩⟩
end
theorem ListComp_ZF {prog : Program} {w : World} {A : Around} {E : Value → Shared → Prop} {s : Shared} {h₀ : Heap} {L : Addr} {m : Str → Option Value} {env : Env} {elt iter : Expr} {x x₂ : Str} {px px₂ tp : Pos} {tk0} {scope : Scope} {cl : List (Str × Addr)} {pos : Pos} {Q : Value → Shared → Prop} (_ : Fr h₀ L s.heap m) (hh : A.handled = none)
    (hclos : closureFor scope env = pure cl) (hcell : ∀ y ∈ scope.names, y.2 ≠ .cell) (hkind : scope.kind = .function)
    (hnames : ∀ y ∈ scope.names, y.2 = .local → scope.names.lookup y.1 = some .local) (hx : scope.names.lookup x = some .local) (hx₂ : scope.names.lookup x₂ = some .local) (hxx : x ≠ x₂)
    (h : wpAny (model prog w) A (eval iter env) (ZSrc prog w A h₀ L m env elt x x₂ scope cl Q) E s)
    (hs : ∀ x, foldedSetIterable iter env x = pure x := by intro _; rfl) :
    wpAny (model prog w) A (eval (.ListComp elt [⟨.Tuple [.Name x px, .Name x₂ px₂] tk0 tp, iter, [], 0⟩] scope pos) env) Q E s :=
  ListComp_Z hh hclos hcell hkind hnames hx hx₂ hxx h hs
/-- the zip is made -/
theorem zipSrc {prog : Program} {w : World} {A : Around} {E : Value → Shared → Prop} {s : Shared} {h₀ : Heap} {L : Addr} {m : Str → Option Value} {env : Env} {elt : Expr} {x x₂ : Str} {scope : Scope} {cl : List (Str × Addr)} {Q : Value → Shared → Prop}
    {l1 l2 : Addr} {xs ys : List Value} {led nw₀ : List (Addr × Obj)} (Inv : Nat → List Value → List (Addr × Obj) → Prop) (F : Fr h₀ L s.heap m) (N : News h₀ L s.heap led) (m1 : (l1, LCg.lst xs) ∈ led) (m2 : (l2, LCg.lst ys) ∈ led) (hsz : xs.length ≤ 1000) (hlen : xs.length = ys.length) (hsub : ∀ p ∈ nw₀, p ∈ led)
    (J0 : Inv 0 [] nw₀) (hkeep : ∀ i ys' nw, Inv i ys' nw → (l1, LCg.lst xs) ∈ nw ∧ (l2, LCg.lst ys) ∈ nw)
    (turn : ∀ b C D (i : Nat) zs nw v₁ v₂ its oC m₂ h tk (E' : Value → Shared → Prop), i < xs.length → Inv i zs nw → xs[i]? = some v₁ → ys[i]? = some v₂ → its.map (·.1) = [b + 4, b + 2, b + 3, b, b + 1] → LCg.NsObj oC m₂ → m₂ x = some v₁ → m₂ x₂ = some v₂ → Fr h₀ L h m → News h₀ L h (its ++ (C, oC) :: (D, LCg.lst zs) :: nw) →
      (∀ p ∈ nw, p.1 ∉ its.map (·.1) ∧ p.1 ≠ C ∧ p.1 ≠ D) →
      wpAny (model prog w) A (eval elt (compEnvC scope cl C env)) (ZEnd h₀ L m its C oC D zs (Inv (i + 1)) { s with heap := h, toks := tk }) E' { s with heap := h, toks := tk })
    (fin : ∀ D zs nw h tk, Inv xs.length zs nw → Fr h₀ L h m → News h₀ L h ((D, LCg.lst zs) :: nw) → (∀ p ∈ nw, p.1 ≠ D) → Q (.ref D) { s with heap := h, toks := tk }) :
    wpAny (model prog w) A (call (.type "zip") [.ref l1, .ref l2]) (ZSrc prog w A h₀ L m env elt x x₂ scope cl Q) E s := by
  have g1 := (N _ m1).1
  have g2 := (N _ m2).1
  have h1 : s.heap.IsList l1 xs.toArray := ⟨_, g1, rfl, _, rfl⟩
  have h2 : s.heap.IsList l2 ys.toArray := ⟨_, g2, rfl, _, rfl⟩
  have hmin : min xs.toArray.size ys.toArray.size = xs.length := by simp [hlen]
  refine call_zip_2 h1 h2 fun h' hz hTI hTO hi1 hi2 hs hk => ?_
  refine ⟨s.heap.objs.size, l1, l2, _, _, xs.toArray, ys.toArray, nw₀, Inv, rfl, hs, hz, hTI, hTO, hi1, hi2, h1.at fun o e => hk _ o e, h2.at fun o e => hk _ o e, ?_, F.keeps hk, fun p hp => ⟨hk _ _ (N p (hsub p hp)).1, (N p (hsub p hp)).2⟩,
    fun p hp => Heap.lt_size (N p (hsub p hp)).1, F.ns.lt, Nat.le_trans F.above (Nat.le_of_lt F.ns.lt), Heap.lt_size g1, Heap.lt_size g2, J0, hkeep, ?_, ?_⟩
  · rw [hmin, sizeLine_eq]; omega
  · intro C D i zs nw v₁ v₂ its oC m₂ h tk E' hi J hv1 hv2 hits hC hm1 hm2 F' N' off'
    rw [hmin] at hi
    rw [← hits] at off'
    exact turn _ C D i zs nw v₁ v₂ its oC m₂ h tk E' hi J (by simpa using hv1) (by simpa using hv2) hits hC hm1 hm2 F' N' off'
  · intro D zs nw h tk J F' N' off'
    rw [hmin] at J
    exact fin D zs nw h tk J F' N' off'
theorem five_its {its : List (Addr × Obj)} {a b c d e : Addr} (h : its.map (·.1) = [a, b, c, d, e]) : ∃ q1 q2 q3 q4 q5, its = [(a, q1), (b, q2), (c, q3), (d, q4), (e, q5)] := by
  obtain ⟨⟨a1, q1⟩, r1, e1, f1, h1⟩ := List.map_eq_cons_iff.mp h
  obtain ⟨⟨a2, q2⟩, r2, e2, f2, h2⟩ := List.map_eq_cons_iff.mp h1
  obtain ⟨⟨a3, q3⟩, r3, e3, f3, h3⟩ := List.map_eq_cons_iff.mp h2
  obtain ⟨⟨a4, q4⟩, r4, e4, f4, h4⟩ := List.map_eq_cons_iff.mp h3
  obtain ⟨⟨a5, q5⟩, r5, e5, f5, h5⟩ := List.map_eq_cons_iff.mp h4
  have e6 := List.map_eq_nil_iff.mp h5
  dsimp only at f1 f2 f3 f4 f5
  subst f1 f2 f3 f4 f5 e6 e5 e4 e3 e2 e1
  exact ⟨q1, q2, q3, q4, q5, rfl⟩
theorem k0_off {L D V Wl : Nat} {o1 o2 o3 o4 o5 o6 o7 o8 oD oV oW t1 t2 : Obj} {R nv nv2 : List (Addr × Obj)} (hL : 72 < L ∧ 65 < L) (hD : D ≠ 65 ∧ D ≠ 72 ∧ D ≠ L + 1 + 1 + 1 + 1 + 1 + 1 + 1 + 1)
    (hR : [(D, oD), (L + 1 + 1 + 1 + 1 + 1 + 1 + 1 + 1, o8), (L + 1 + 1 + 1 + 1 + 1 + 1 + 1, o7), (L + 1 + 1 + 1 + 1 + 1 + 1, o6), (L + 1 + 1 + 1 + 1 + 1, o5), (L + 1 + 1 + 1 + 1, o4), (L + 1 + 1 + 1, o3), (L + 1 + 1, o2), (L + 1, o1), (72, t1), (65, t2)] = R)
    (hV : ∀ p ∈ R ++ nv, p.1 ≠ V) (hW : ∀ p ∈ ((V, oV) :: R) ++ nv2, p.1 ≠ Wl) (hn : ∀ p ∈ nv, p ∈ ([] : List (Addr × Obj)) ∨ ∀ q ∈ R, p.1 ≠ q.1) (hn2 : ∀ p ∈ nv2, p ∈ nv ∨ ∀ q ∈ (V, oV) :: R, p.1 ≠ q.1) :
    ∀ p ∈ (Wl, oW) :: (V, oV) :: (D, oD) :: (L + 1 + 1 + 1 + 1 + 1 + 1 + 1 + 1, o8) :: (L + 1 + 1 + 1 + 1 + 1 + 1 + 1, o7) :: (L + 1 + 1 + 1 + 1 + 1 + 1, o6) :: (L + 1 + 1 + 1 + 1 + 1, o5) :: (L + 1 + 1 + 1 + 1, o4) :: (L + 1 + 1 + 1, o3) :: (L + 1 + 1, o2) :: (L + 1, o1) :: nv2, p.1 ≠ 65 ∧ p.1 ≠ 72 := by
  have m72 : ((72 : Addr), t1) ∈ R := by rw [← hR]; simp
  have m65 : ((65 : Addr), t2) ∈ R := by rw [← hR]; simp
  intro p hp
  simp only [List.mem_cons] at hp
  rcases hp with rfl | rfl | rfl | rfl | rfl | rfl | rfl | rfl | rfl | rfl | rfl | hp
  · exact ⟨fun e => hW _ (.tail _ (List.mem_append_left _ m65)) e.symm, fun e => hW _ (.tail _ (List.mem_append_left _ m72)) e.symm⟩
  · exact ⟨fun e => hV _ (List.mem_append_left _ m65) e.symm, fun e => hV _ (List.mem_append_left _ m72) e.symm⟩
  · dsimp only; omega
  · dsimp only; omega
  · dsimp only; omega
  · dsimp only; omega
  · dsimp only; omega
  · dsimp only; omega
  · dsimp only; omega
  · dsimp only; omega
  · dsimp only; omega
  · rcases hn2 p hp with h | h
    · rcases hn p h with h | h
      · cases h
      · exact ⟨h _ m65, h _ m72⟩
    · exact ⟨h _ (.tail _ m65), h _ (.tail _ m72)⟩
theorem k8_off {L D V Wl : Nat} {o1 o2 o3 o4 o5 o6 o7 o8 oD oV oW t1 t2 : Obj} {R nv nv2 : List (Addr × Obj)} (hL : 72 < L ∧ 65 < L) (hD : D ≠ 65 ∧ D ≠ 72 ∧ D ≠ L + 1 + 1 + 1 + 1 + 1 + 1 + 1 + 1)
    (hR : [(D, oD), (L + 1 + 1 + 1 + 1 + 1 + 1 + 1 + 1, o8), (L + 1 + 1 + 1 + 1 + 1 + 1 + 1, o7), (L + 1 + 1 + 1 + 1 + 1 + 1, o6), (L + 1 + 1 + 1 + 1 + 1, o5), (L + 1 + 1 + 1 + 1, o4), (L + 1 + 1 + 1, o3), (L + 1 + 1, o2), (L + 1, o1), (72, t1), (65, t2)] = R)
    (hV : ∀ p ∈ R ++ nv, p.1 ≠ V) (hW : ∀ p ∈ ((V, oV) :: R) ++ nv2, p.1 ≠ Wl) (hn : ∀ p ∈ nv, p ∈ ([] : List (Addr × Obj)) ∨ ∀ q ∈ R, p.1 ≠ q.1) (hn2 : ∀ p ∈ nv2, p ∈ nv ∨ ∀ q ∈ (V, oV) :: R, p.1 ≠ q.1) :
    (Wl ≠ L + 1 + 1 + 1 + 1 + 1 + 1 + 1 + 1 ∧ V ≠ L + 1 + 1 + 1 + 1 + 1 + 1 + 1 + 1) ∧ ∀ p ∈ nv2, p.1 ≠ L + 1 + 1 + 1 + 1 + 1 + 1 + 1 + 1 := by
  have m8 : ((L + 1 + 1 + 1 + 1 + 1 + 1 + 1 + 1 : Nat), o8) ∈ R := by rw [← hR]; simp
  refine ⟨⟨fun e => hW _ (.tail _ (List.mem_append_left _ m8)) e.symm, fun e => hV _ (List.mem_append_left _ m8) e.symm⟩, fun p hp => ?_⟩
  rcases hn2 p hp with h | h
  · rcases hn p h with h | h
    · cases h
    · exact h _ m8
  · exact h _ (.tail _ m8)
theorem newsTab {h₀ h : Heap} {L : Addr} {led : List (Addr × Obj)} {o1 o2 : Obj} (N : News h₀ L h led) (m1 : ((65 : Addr), o1) ∈ led) (m2 : ((72 : Addr), o2) ∈ led) : News h₀ L h [(65, o1), (72, o2)] := fun p hp => by
  rcases List.mem_cons.mp hp with rfl | hp
  · exact N _ m1
  · rw [List.mem_singleton.mp hp]; exact N _ m2
end Mine
end
section -- Ksc
theorem Mine.wTopOff31 : True := by w_top off; trivial
open PySem PySem.W PySem.Calls PyProof.Rows PyProof.Rows.LCg
namespace Mine
section
variable {prog : Program} {w : World} {A : Around} {E : Value → Shared → Prop} {s : Shared} {h₀ : Heap} {L : Addr} {m : Str → Option Value} {env : Env}
/-- where a turn of a comprehension over a range ends: an int -/
def SEnd (h₀ : Heap) (L : Addr) (m : Str → Option Value) (led : List (Addr × Obj)) (z : Int) (s : Shared) (y : Value) (s' : Shared) : Prop :=
  ∃ h' tk' u, y = .int z u ∧ s' = { s with heap := h', toks := tk' } ∧ Fr h₀ L h' m ∧ News h₀ L h' led
/-- a range as the source of a comprehension whose own name is a cell -/
def SSrc (prog : Program) (w : World) (A : Around) (h₀ : Heap) (L : Addr) (m : Str → Option Value) (env : Env) (elt : Expr) (x y : Str) (scope : Scope) (cl : List (Str × Addr)) (Q : Flow → Shared → Prop) (xv : Value) (s₁ : Shared) : Prop :=
  ∃ (r : Addr) (b : Int) (t u v : Tok) (n : Nat) (f : Nat → Int) (R : List (Addr × Obj)), xv = .ref r ∧ A.handled = none ∧ Fr h₀ L s₁.heap m ∧ News h₀ L s₁.heap R ∧ IsRange s₁.heap r 0 b 1 t u v ∧ Builtin.Range.small 0 b 1 = true ∧ Builtin.Range.rangeSize 0 b 1 = ((n : Nat) : Int) ∧ n ≤ sizeLine ∧
    (∀ (i : Nat) (zs : List Value) I oI C oC S oS D u' h tk (E' : Value → Shared → Prop), i < n → oS.data = .cell (some (.int (i : Int) u')) → Fr h₀ L h m → News h₀ L h ((I, oI) :: (C, oC) :: (S, oS) :: (D, lst zs) :: R) →
      wpAny (model prog w) A (eval elt (compEnvC scope ((x, S) :: cl) C env)) (SEnd h₀ L m ((I, oI) :: (C, oC) :: (S, oS) :: (D, lst zs) :: R) (f i) { s₁ with heap := h, toks := tk }) E' { s₁ with heap := h, toks := tk }) ∧
    (∀ D zs h tk, IntsAre zs ((List.range n).map f) → Fr h₀ L h (fun z => if z = y then some (.ref D) else m z) → News h₀ L h ((D, lst zs) :: R) → (∀ p ∈ R, p.1 ≠ D) → Q .next { s₁ with heap := h, toks := tk })
theorem Assign_ListComp_S {elt iter : Expr} {x y : Str} {px py : Pos} {scope : Scope} {cl : List (Str × Addr)} {pos spos : Pos} {Q : Flow → Shared → Prop} (_ : Fr h₀ L s.heap m) (hLe : env.locals = L)
    (hsw : swapsWith (.ListComp elt [⟨.Name x px, iter, [], 0⟩] scope pos) (some (.Name y py)) spos.line env = pure true)
    (hclos : closureFor scope env = pure cl) (hkind : scope.kind = .function)
    (hnames : ∀ z ∈ scope.names, z.2 = .local → scope.names.lookup z.1 = some .local) (hcf : ∀ a acc, cellsFrom a scope.names acc = (x, a) :: acc) (hpc : ∀ H, pushCells H scope.names = H.push { cls := .type "cell", data := .cell none })
    (hxr : (relabel scope env).names.lookup x = some .cell)
    (hy : env.kindOf y = some .local) (hp : (env.scope.kind == .class || (env.scope.kind == .module && env.locals != env.globals)) = false)
    (h : wpAny (model prog w) A (eval iter env) (SSrc prog w A h₀ L m env elt x y scope cl Q) E s)
    (hs : ∀ x, foldedSetIterable iter env x = pure x := by intro _; rfl) :
    wpAny (model prog w) A (exec (.Assign [.Name y py] (.ListComp elt [⟨.Name x px, iter, [], 0⟩] scope pos) spos) env) Q E s := by
  subst hLe
  rw [exec_Assign_Name_used _ _ _ _ hsw]
  refine wpAny_bind (wpAny_standAt (wpAny_bind ?_))
  show wpAny _ A (do let _ ← comprehension (.ListComp elt [⟨.Name x px, iter, [], 0⟩] scope pos) scope env _ (newList []) false (eval iter env) (some (assign (.Name y py) env))) _ _ s
  refine wpAny_bind (wpAny_mono (wpAny_comprehension_free (use := some (assign (.Name y py) env)) (Q := fun _ s' => Q .next s') rfl hs hclos hkind hnames
    (wpAny_mono h (fun xv s₁ h₁ => ?_) fun _ _ e => e)) (fun _ s' hq => wpAny_pure (wpAny_pure hq)) fun _ _ e => e)
  obtain ⟨r, b, t, u, v, n, f, R, rfl, hh, F, N, hr, hsm, hn, hsz, turn, fin⟩ := h₁
  refine wpAny_pyIter_range hr hsm ?_
  generalize hH1 : s₁.heap.push { cls := .type "range_iterator", data := .fields #[rawInt 0, rawInt (Builtin.Range.rangeSize 0 b 1), rawInt 1] } = H1
  have z1 : H1.objs.size = s₁.heap.objs.size + 1 := by rw [← hH1, Heap.size_push]
  have hIr : IsRangeIter H1 s₁.heap.objs.size (0 + ((0 : Nat) : Int) * 1) ((n : Int) - ((0 : Nat) : Int)) 1 := by
    show H1.get? _ = _
    rw [← hH1, hn]; simpa using Heap.get?_push_size _ rfl
  refine wpAny_newObj_type ?_
  dsimp only
  generalize hH2 : H1.push { cls := .type "list", dict := none, data := .seq ([] : List Value).toArray } = H2
  have z2 : H2.objs.size = s₁.heap.objs.size + 2 := by rw [← hH2, Heap.size_push, z1]
  simp only [newFunctionEnv, Option.isSome_some, if_true]
  refine wpAny_bind (wpAny_alloc ?_)
  dsimp only
  generalize hH3 : H2.push { cls := .type "dict", data := .dict #[] } = H3
  have z3 : H3.objs.size = s₁.heap.objs.size + 3 := by rw [← hH3, Heap.size_push, z2]
  refine wpAny_bind (wpAny_layCells _ (fun name kind cells => by cases hkc : kind == NameKind.cell <;> simp [hkc]) _ _ _ _ ?_)
  dsimp only
  rw [hcf, hpc, z3]
  generalize hH4 : H3.push { cls := .type "cell", data := .cell none } = H4
  refine wpAny_bind ?_
  rw [List.forIn_nil]
  refine wpAny_pure (wpAny_pure ?_)
  rw [z1, z2]
  have hEnv : ({ ({ scope := scope, locals := s₁.heap.objs.size + 2, globals := env.globals, cells := (x, s₁.heap.objs.size + 3) :: cl, qual := env.qual, func := none, code := env.code, frame := env.frame, builtins := env.builtins } : Env) with scope := relabel scope env }) = compEnvC scope ((x, s₁.heap.objs.size + 3) :: cl) (s₁.heap.objs.size + 2) env := rfl
  show codeAny _ A (.compStart _ 0 _ _ (compEnvC scope ((x, s₁.heap.objs.size + 3) :: cl) (s₁.heap.objs.size + 2) env)) _ _
  clear hEnv
  generalize ha : s₁.heap.objs.size = a at *
  have up : ∀ p o, s₁.heap.get? p = some o → H4.get? p = some o := fun p o e => by
    rw [← hH4]; refine Heap.get?_push_of_some _ ?_
    rw [← hH3]; refine Heap.get?_push_of_some _ ?_
    rw [← hH2]; refine Heap.get?_push_of_some _ ?_
    rw [← hH1]; exact Heap.get?_push_of_some _ e
  have gD : H4.get? (a + 1) = some (lst []) := by
    rw [← hH4]; refine Heap.get?_push_of_some _ ?_
    rw [← hH3]; refine Heap.get?_push_of_some _ ?_
    rw [← hH2, ← z1]; exact Heap.get?_push_size _ rfl
  have gS : H4.get? (a + 3) = some { cls := .type "cell", data := .cell none } := by
    rw [← hH4, ← z3]; exact Heap.get?_push_size _ rfl
  have hNsC : H4.Ns (a + 2) (fun _ => none) := by
    have h0 := Heap.Ns.new H2 (.type "dict")
    rw [z2, hH3] at h0
    refine h0.keeps fun p o e => ?_
    rw [← hH4]; exact Heap.get?_push_of_some _ e
  have hst : IsRangeIter H4 a (0 + ((0 : Nat) : Int) * 1) ((n : Int) - ((0 : Nat) : Int)) 1 := by
    show H4.get? a = _
    rw [← hH4]; refine Heap.get?_push_of_some _ ?_
    rw [← hH3]; refine Heap.get?_push_of_some _ ?_
    rw [← hH2]; exact Heap.get?_push_of_some _ hIr
  clear hIr hH1 hH2 hH3 hH4 z1 z2 z3
  obtain ⟨oC, heC, hoC⟩ := ns_obj hNsC
  have hLt : env.locals < a := by rw [← ha]; exact F.ns.lt
  have hRl : ∀ p ∈ R, p.1 < a := fun p hp => by rw [← ha]; exact Heap.lt_size (N p hp).1
  have none₀ : ∀ c : Nat, a ≤ c → h₀.get? c = none := fun c hc => by
    cases e : h₀.get? c with
    | none => rfl
    | some o =>
      have h9 := Heap.lt_size (F.keep _ _ e)
      rw [ha] at h9
      exact absurd h9 (Nat.not_lt.mpr hc)
  have neL : ∀ c : Nat, a ≤ c → c ≠ env.locals := fun c hc e => by rw [e] at hc; exact absurd hLt (Nat.not_lt.mpr hc)
  have neR : ∀ c : Nat, a ≤ c → ∀ p ∈ R, p.1 ≠ c := fun c hc p hp e => by have := hRl p hp; rw [e] at this; exact absurd this (Nat.not_lt.mpr hc)
  have W := range_walks (prog := prog) (w := w) (I := a) hh 0 n
  have loop : ∀ tk0, codeAny (model prog w) A (.compLoop (.ListComp elt [⟨.Name x px, iter, [], 0⟩] scope pos) 0 (.ref a) (.ref (a + 1)) (compEnvC scope ((x, a + 3) :: cl) (a + 2) env))
        (compPost (model prog w) A E (some (assign (.Name y py) env)) (fun _ s' => Q .next s') (.ref (a + 1)) (a + 2)) { s₁ with heap := H4, toks := tk0 } := by
    intro tk0
    refine codeAny_compLoop_tests
      (fun k s' => ∃ h' tk i zs oS c, s' = { s₁ with heap := h', toks := tk } ∧ i ≤ n ∧ k = n + 1 - i ∧ zs.length = i ∧ IsRangeIter h' a (0 + (i : Nat) * 1) ((n : Int) - (i : Nat)) 1 ∧ Fr h₀ env.locals h' m ∧
        News h₀ env.locals h' ((a + 2, oC) :: (a + 3, oS) :: (a + 1, lst zs) :: R) ∧ oS.data = .cell c ∧ IntsAre zs ((List.range i).map f)) ?_ (n + 1)
      ⟨H4, tk0, 0, [], ({ cls := .type "cell", data := .cell none } : Obj), none, rfl, Nat.zero_le _, rfl, rfl, hst, F.keeps up, ?_, rfl, .nil⟩
    · rintro k s' ⟨h', tk, i, zs, oS, c, rfl, hi, rfl, hzl, hst', F', N', hd, hI⟩
      have offI : ∀ p ∈ (a + 2, oC) :: (a + 3, oS) :: (a + 1, lst zs) :: R, p.1 ≠ a := fun p hp => by
        rcases List.mem_cons.mp hp with rfl | hp
        · exact Nat.ne_of_gt (Nat.lt_add_of_pos_right (by decide))
        rcases List.mem_cons.mp hp with rfl | hp
        · exact Nat.ne_of_gt (Nat.lt_add_of_pos_right (by decide))
        rcases List.mem_cons.mp hp with rfl | hp
        · exact Nat.ne_of_gt (Nat.lt_add_of_pos_right (by decide))
        · exact neR a (Nat.le_refl _) p hp
      have N₂' : ∀ h₂, (∀ b o, b ∉ [a] → h'.get? b = some o → h₂.get? b = some o) → News h₀ env.locals h₂ ((a + 2, oC) :: (a + 3, oS) :: (a + 1, lst zs) :: R) := fun h₂ hk₂ => news_but N' hk₂ offI
      have F₂' : ∀ h₂, (∀ b o, b ∉ [a] → h'.get? b = some o → h₂.get? b = some o) → Fr h₀ env.locals h₂ m := fun h₂ hk₂ => fr_but F' hk₂ (Ne.symm (neL a (Nat.le_refl _))) (none₀ a (Nat.le_refl _))
      by_cases hlt : i < n
      · refine W.item i _ _ _ hlt hst' fun v h₂ tk₂ hPv hst₂ hk₂ => ?_
        obtain ⟨u', rfl⟩ := hPv
        have N₂ := N₂' h₂ hk₂
        have F₂ := F₂' h₂ hk₂
        refine wpAny_assign_Name (wpAny_storeName_cell (c := a + 3) (v₀ := c) hkind hxr (by simp [compEnvC]) ⟨oS, (N₂ _ (.tail _ (.head _))).1, hd⟩ fun h₃ hv₃ hs₃ => ?_)
        refine wpAny_tests_nil ?_
        simp only [if_true]
        obtain ⟨oS', heS, hdS⟩ := hv₃
        have F₃ : Fr h₀ env.locals h₃ m := F₂.change hs₃ (neL _ (Nat.le_add_right _ _)) (none₀ _ (Nat.le_add_right _ _))
        have hst₃ : IsRangeIter h₃ a (0 + ((i + 1 : Nat) : Int) * 1) ((n : Int) - ((i + 1 : Nat) : Int)) 1 := W.frame _ _ _ hst₂ fun b hb o e => hs₃.extBut b o (by rw [List.mem_singleton.mp hb]; exact Nat.ne_of_lt (Nat.lt_add_of_pos_right (by decide))) e
        have N₃ : News h₀ env.locals h₃ ((a, _) :: (a + 2, oC) :: (a + 3, oS') :: (a + 1, lst zs) :: R) := fun p hp => by
          rcases List.mem_cons.mp hp with rfl | hp
          · exact ⟨hst₃, neL _ (Nat.le_refl _), none₀ _ (Nat.le_refl _)⟩
          rcases List.mem_cons.mp hp with rfl | hp
          · have z := N₂ _ (.head _)
            exact ⟨hs₃.extBut _ _ (Nat.ne_of_lt (Nat.add_lt_add_left (by decide) _)) z.1, z.2⟩
          rcases List.mem_cons.mp hp with rfl | hp
          · exact ⟨heS, neL _ (Nat.le_add_right _ _), none₀ _ (Nat.le_add_right _ _)⟩
          rcases List.mem_cons.mp hp with rfl | hp
          · have z := N₂ _ (.tail _ (.tail _ (.head _)))
            exact ⟨hs₃.extBut _ _ (Nat.ne_of_lt (Nat.add_lt_add_left (by decide) _)) z.1, z.2⟩
          · have z := N₂ _ (.tail _ (.tail _ (.tail _ hp)))
            exact ⟨hs₃.extBut _ _ (neR _ (Nat.le_add_right _ _) p hp) z.1, z.2⟩
        refine wpAny_mono (turn i zs a _ (a + 2) oC (a + 3) oS' (a + 1) u' h₃ _ _ hlt (by rw [hdS, Int.zero_add]) F₃ N₃) (fun yv s₄ h₄ => ?_) fun _ _ e => e
        obtain ⟨h₄, tk₄, u4, rfl, rfl, F₄, N₄⟩ := h₄
        refine append_at (hsz := by show zs.toArray.size ≤ sizeLine; rw [List.size_toArray, hzl]; exact Nat.le_trans hi hsz) (N₄ _ (.tail _ (.tail _ (.tail _ (.head _))))).1 fun h₅ hs₅ hD₅ => ?_
        refine ⟨n + 1 - (i + 1), by omega, h₅, tk₄, i + 1, zs ++ [.int (f i) u4], oS', _, rfl, hlt, rfl, by rw [List.length_append, List.length_singleton, hzl], ?_, F₄.change hs₅ (neL _ (Nat.le_add_right _ _)) (none₀ _ (Nat.le_add_right _ _)), fun p hp => ?_, hdS, ?_⟩
        · exact hs₅.extBut _ _ (Nat.ne_of_lt (Nat.lt_add_of_pos_right (by decide))) (N₄ _ (.head _)).1
        · rcases List.mem_cons.mp hp with rfl | hp
          · have z := N₄ _ (.tail _ (.head _))
            exact ⟨hs₅.extBut _ _ (Nat.ne_of_gt (Nat.add_lt_add_left (by decide) _)) z.1, z.2⟩
          rcases List.mem_cons.mp hp with rfl | hp
          · have z := N₄ _ (.tail _ (.tail _ (.head _)))
            exact ⟨hs₅.extBut _ _ (Nat.ne_of_gt (Nat.add_lt_add_left (by decide) _)) z.1, z.2⟩
          rcases List.mem_cons.mp hp with rfl | hp
          · exact ⟨hD₅.trans (congrArg some (lst_snoc zs _)), neL _ (Nat.le_add_right _ _), none₀ _ (Nat.le_add_right _ _)⟩
          · have z := N₄ _ (.tail _ (.tail _ (.tail _ (.tail _ hp))))
            exact ⟨hs₅.extBut _ _ (neR _ (Nat.le_add_right _ _) p hp) z.1, z.2⟩
        · rw [List.range_succ, List.map_append]
          exact IntsAre.append hI (.cons _ u4 .nil)
      · obtain rfl : i = n := Nat.le_antisymm hi (Nat.not_lt.mp hlt)
        refine W.done _ _ _ hst' fun h₂ tk₂ hk₂ => ?_
        have N₂ := N₂' h₂ hk₂
        have F₂ := F₂' h₂ hk₂
        have hCn := hoC.ns (N₂ _ (.head _)).1
        show wpAny _ A (assign (.Name y py) env (.ref (a + 1))) _ _ _
        refine wpAny_assign_Name (wpAny_storeName_local hy F₂.ns (fun h₅ hn₅ hs₅ => ?_) hp)
        have hL₀ : h₀.get? env.locals = none := Heap.get?_none_of_le F₂.above
        have F₅ : Fr h₀ env.locals h₅ (fun z => if z = y then some (.ref (a + 1)) else m z) := ⟨hn₅, fun b o e => hs₅.extBut b o (fun q => by rw [q, hL₀] at e; cases e) (F₂.keep b o e), F₂.above⟩
        refine ⟨_, hCn.sameBut hs₅ (neL _ (Nat.le_add_right _ _)), fun h'' hs'' => fin (a + 1) zs h'' _ hI (F₅.change hs'' (neL _ (Nat.le_add_right _ _)) (none₀ _ (Nat.le_add_right _ _))) (fun p hp => ?_) (fun p hp => neR _ (Nat.le_add_right _ _) p hp)⟩
        have hp2 : p ∈ (a + 2, oC) :: (a + 3, oS) :: (a + 1, lst zs) :: R := .tail _ (.tail _ hp)
        have z : h₅.get? p.1 = some p.2 := hs₅.extBut _ _ (N₂ p hp2).2.1 (N₂ p hp2).1
        refine ⟨hs''.extBut _ _ ?_ z, (N₂ p hp2).2⟩
        rcases List.mem_cons.mp hp with rfl | hp
        · exact Nat.ne_of_lt (Nat.add_lt_add_left (by decide) _)
        · exact neR _ (Nat.le_add_right _ _) p hp
    · intro p hp
      rcases List.mem_cons.mp hp with rfl | hp
      · exact ⟨heC, neL _ (Nat.le_add_right _ _), none₀ _ (Nat.le_add_right _ _)⟩
      rcases List.mem_cons.mp hp with rfl | hp
      · exact ⟨gS, neL _ (Nat.le_add_right _ _), none₀ _ (Nat.le_add_right _ _)⟩
      rcases List.mem_cons.mp hp with rfl | hp
      · exact ⟨gD, neL _ (Nat.le_add_right _ _), none₀ _ (Nat.le_add_right _ _)⟩
      · exact ⟨up _ _ (N p hp).1, (N p hp).2⟩
  exact codeAny_compStart_list (loop _) (W.self 0 _ _ _ hst (loop _))
end
end Mine
end
section -- Ksf
open PySem PySem.W PySem.Calls PyProof.Rows PyProof.Rows.LCg PyProof.Rows.LCt
namespace Mine
/-- where a test of a comprehension ends, nothing changed -/
def TEnd (h₀ : Heap) (L : Addr) (m : Str → Option Value) (led : List (Addr × Obj)) (b : Bool) (s : Shared) (ok : Bool) (s' : Shared) : Prop :=
  ok = b ∧ ∃ h' tk', s' = { s with heap := h', toks := tk' } ∧ Fr h₀ L h' m ∧ News h₀ L h' led
theorem compFilt {prog : Program} {w : World} {A : Around} {h₀ : Heap} {L : Addr} {m : Str → Option Value} {env : Env} {ct elt : Expr} {x : Str} {scope : Scope} {cl : List (Str × Addr)} {s : Shared} {S : List (Addr × Obj) → Prop} {its : Array Value} {Fin : List Value → List (Addr × Obj) → Prop} {n : Nat}
    (ks : List Int) (p : Int → Bool) (R : List (Addr × Obj)) (hn : n = ks.length) (hI : IntsAre its.toList ks) (hS : S R)
    (test : ∀ k t I oI C oC D m₂ h tk ys (E' : Value → Shared → Prop), k ∈ ks → NsObj oC m₂ → m₂ x = some (.int k t) → Fr h₀ L h m → News h₀ L h ((I, oI) :: (C, oC) :: (D, lst ys) :: R) →
      wpAny (model prog w) A (isTrue ct (compEnvC scope cl C env) (eval ct (compEnvC scope cl C env))) (TEnd h₀ L m ((I, oI) :: (C, oC) :: (D, lst ys) :: R) (p k) { s with heap := h, toks := tk }) E' { s with heap := h, toks := tk })
    (item : ∀ k t I oI C oC D m₂ h tk ys (E' : Value → Shared → Prop), k ∈ ks → NsObj oC m₂ → m₂ x = some (.int k t) → Fr h₀ L h m → News h₀ L h ((I, oI) :: (C, oC) :: (D, lst ys) :: R) →
      wpAny (model prog w) A (eval elt (compEnvC scope cl C env)) (SEnd h₀ L m ((I, oI) :: (C, oC) :: (D, lst ys) :: R) k { s with heap := h, toks := tk }) E' { s with heap := h, toks := tk })
    (fin : ∀ ys, IntsAre ys (ks.filter p) → Fin ys R) : CompRestT prog w A h₀ L m env ct elt x scope cl s S (fun i v => its[i]? = some v) Fin n 0 [] R := by
  have key : ∀ (j i : Nat) (ys : List Value), i + j = n → IntsAre ys ((ks.take i).filter p) → CompRestT prog w A h₀ L m env ct elt x scope cl s S (fun i v => its[i]? = some v) Fin j i ys R := by
    intro j
    induction j with
    | zero =>
      intro i ys hi hy
      refine CompRestT.zero (fin ys ?_)
      rwa [List.take_of_length_le (by omega)] at hy
    | succ j ih =>
      intro i ys hi hy
      refine CompRestT.succ ?_
      intro v I oI C oC D m₂ h tk E' hv hC hx F N off ne
      obtain ⟨k, t, rfl, hk⟩ := IntsAre.at hI i v (by rw [Array.getElem?_toList]; exact hv)
      have hkm := List.mem_of_getElem? hk
      have htk : ks.take (i + 1) = ks.take i ++ [k] := by rw [List.take_add_one, hk]; rfl
      refine wpAny_mono (test k t I oI C oC D m₂ h tk ys E' hkm hC hx F N) (fun ok s' hq => ?_) fun _ _ e => e
      obtain ⟨rfl, h', tk', rfl, F', N'⟩ := hq
      cases hp : p k with
      | true =>
        rw [if_pos rfl]
        refine wpAny_mono (item k t I oI C oC D m₂ h' tk' ys E' hkm hC hx F' N') (fun y s'' hq => ?_) fun _ _ e => e
        obtain ⟨h'', tk'', u, rfl, rfl, F'', N''⟩ := hq
        refine ⟨h'', tk'', R, rfl, F'', N'', off, hS, ih (i + 1) _ (by omega) ?_⟩
        rw [htk, List.filter_append, List.filter_cons_of_pos hp, List.filter_nil]
        exact IntsAre.append hy (.cons _ u .nil)
      | false =>
        rw [if_neg (by decide)]
        refine ⟨h', tk', R, rfl, F', N', off, hS, ih (i + 1) _ (by omega) ?_⟩
        rw [htk, List.filter_append, List.filter_cons_of_neg (by rw [hp]; decide), List.filter_nil, List.append_nil]
        exact hy
  exact key n 0 [] (by omega) (by simpa using IntsAre.nil)
theorem rangeSrc {prog : Program} {w : World} {A : Around} {E : Value → Shared → Prop} {s : Shared} {h₀ : Heap} {L : Addr} {m : Str → Option Value} {env : Env} {elt : Expr} {x y : Str} {scope : Scope} {cl : List (Str × Addr)} {Q : Flow → Shared → Prop} {z : Int} {t : Tok} {led : List (Addr × Obj)}
    (n : Nat) (f : Nat → Int) (R : List (Addr × Obj)) (F : Fr h₀ L s.heap m) (N : News h₀ L s.heap led) (hsub : ∀ p ∈ R, p ∈ led) (hh : A.handled = none) (hz : z = (n : Int)) (hn : n ≤ 1000)
    (turn : ∀ (i : Nat) (zs : List Value) I oI C oC S oS D u' h tk (E' : Value → Shared → Prop), i < n → oS.data = .cell (some (.int (i : Int) u')) → Fr h₀ L h m → News h₀ L h ((I, oI) :: (C, oC) :: (S, oS) :: (D, lst zs) :: R) →
      wpAny (model prog w) A (eval elt (compEnvC scope ((x, S) :: cl) C env)) (SEnd h₀ L m ((I, oI) :: (C, oC) :: (S, oS) :: (D, lst zs) :: R) (f i) { s with heap := h, toks := tk }) E' { s with heap := h, toks := tk })
    (fin : ∀ D zs h tk, IntsAre zs ((List.range n).map f) → Fr h₀ L h (fun z => if z = y then some (.ref D) else m z) → News h₀ L h ((D, lst zs) :: R) → (∀ p ∈ R, p.1 ≠ D) → Q .next { s with heap := h, toks := tk }) :
    wpAny (model prog w) A (call (.type "range") [.int z t]) (SSrc prog w A h₀ L m env elt x y scope cl Q) E s := by
  subst hz
  refine range1_rows F N fun h' tk t₁ u₁ v₁ hr F' N' hk => ?_
  refine ⟨_, (n : Int), t₁, u₁, v₁, n, f, R, rfl, hh, F', fun p hp => N' p (hsub p hp), hr, rs_small (by decide) (by decide) (by omega) (by omega), ?_, ?_, turn, fin⟩
  · rw [rs_one]; omega
  · rw [sizeLine_eq]; omega
theorem sec_count {ps : List Int} {T : Int} {N : Int} {i : Nat} (hT : 1 ≤ T) : (((ps.map (· % T)).filter fun k => decide ((k * N).fdiv T = (i : Int))).length : Int) = ((ps.map (secP N T)).count (i : Int) : Nat) := by
  congr 1
  induction ps with
  | nil => rfl
  | cons p ps ih =>
    have e : (p % T * N).fdiv T = secP N T p := by unfold secP; exact Int.fdiv_eq_ediv_of_nonneg _ (by omega)
    rw [List.map_cons, List.map_cons, List.count_cons, List.filter_cons, e]
    by_cases h : secP N T p = (i : Int)
    · simp [h, ih]
    · simp [h, ih]
end Mine
end
section -- KlawF
theorem Mine.wTopOff32 : True := by w_top off; trivial
local macro_rules | `(tactic| walk_at "no such line") => `(tactic| fail)
local macro_rules | `(tactic| walk_at "no such line") => `(tactic| fail)
local macro_rules | `(tactic| walk_at "no such line") => `(tactic| fail)
local macro_rules | `(tactic| walk_at "no such line") => `(tactic| fail)
local macro_rules | `(tactic| walk_at "no such line") => `(tactic| fail)
local macro_rules | `(tactic| walk_at "no such line") => `(tactic| fail)
local macro_rules | `(tactic| walk_at "no such line") => `(tactic| fail)
local macro_rules | `(tactic| walk_at "no such line") => `(tactic| fail)
local macro_rules | `(tactic| walk_at "no such line") => `(tactic| fail)
local macro_rules | `(tactic| walk_at "no such line") => `(tactic| fail)
local macro_rules | `(tactic| walk_at "no such line") => `(tactic| fail)
local macro_rules | `(tactic| walk_at "no such line") => `(tactic| fail)
local macro_rules | `(tactic| walk_at "no such line") => `(tactic| fail)
local macro_rules | `(tactic| walk_at "no such line") => `(tactic| fail)
local macro_rules | `(tactic| walk_at "no such line") => `(tactic| fail)
local macro_rules | `(tactic| walk_at "no such line") => `(tactic| fail)
local macro_rules | `(tactic| walk_at "no such line") => `(tactic| fail)
local macro_rules | `(tactic| walk_at "no such line") => `(tactic| fail)
local macro_rules | `(tactic| walk_at "no such line") => `(tactic| fail)
local macro_rules | `(tactic| walk_at "no such line") => `(tactic| fail)
local macro_rules | `(tactic| walk_at "no such line") => `(tactic| fail)
local macro_rules | `(tactic| walk_at "no such line") => `(tactic| fail)
local macro_rules | `(tactic| walk_at "no such line") => `(tactic| fail)
local macro_rules | `(tactic| walk_at "no such line") => `(tactic| fail)
local macro_rules | `(tactic| walk_at "no such line") => `(tactic| fail)
local macro_rules | `(tactic| walk_at "eval BinOp") => `(tactic| (k_here; k_dflt (refine' Mine.pev_ok ?F ?e ?c ?k ?_; (case F => k_asm); (case e => exact rfl); (case c => (repeat (first | exact trivial | refine And.intro (by mul_fits) ?_))); (case k => rfl); k_whole)))
local macro_rules | `(tactic| walk_at "spliced") => `(tactic| (k_here; k_dflt (refine' Mine.args_ok ?F ?k ?e ?c ?_; (case F => k_asm); (case k => rfl); (case e => exact rfl); (case c => (repeat (first | exact trivial | refine And.intro (by mul_fits) ?_))); k_whole)))
local macro_rules | `(tactic| walk_at "isTrue Compare") => `(tactic| (k_here; k_dflt (refine' Mine.cmp_ok ?F ?e ?c ?k ?n ?_; (case F => k_asm); (case e => exact rfl); (case c => (repeat (first | exact trivial | refine And.intro (by mul_fits) ?_))); (case k => rfl); (case n => rfl); k_whole)))
local macro_rules | `(tactic| walk_at "exec Assign") => `(tactic| (k_here; k_dflt (refine' Mine.assign_ok0 ?F ?N ?e ?c ?k ?x ?s ?_; (case F => k_asm); (case N => k_asm); (case e => exact rfl); (case c => (repeat (first | exact trivial | refine And.intro (by mul_fits) ?_))); (case k => rfl); (case x => rfl); (case s => rfl); k_whole; intro h' F' N'; (try k_sweep))))
local macro_rules | `(tactic| walk_at "exec Return some") => `(tactic| (k_here; k_dflt (refine' Mine.ret_ok ?F ?e ?c ?k ?_; (case F => k_asm); (case e => exact rfl); (case c => (repeat (first | exact trivial | refine And.intro (by mul_fits) ?_))); (case k => rfl); k_whole)))
local macro_rules | `(tactic| k_ne) => `(tactic| (refine PySem.W.neN ?_; (try dsimp only); first
  | with_reducible assumption
  | ((with_reducible refine Nat.ne_of_lt ?_); (repeat with_reducible refine Mine.nzLT ?_); (first | with_reducible assumption | exact Mine.nzA1 (by with_reducible assumption) | exact Mine.nzA2 (by with_reducible assumption) | exact Mine.nzZ2 (by with_reducible assumption) | exact Mine.nzA3 (by with_reducible assumption) | exact Mine.nzZ3 (by with_reducible assumption) | exact Mine.nzA4 (by with_reducible assumption) | exact Mine.nzZ4 (by with_reducible assumption) | exact Mine.nzA5 (by with_reducible assumption) | exact Mine.nzZ5 (by with_reducible assumption) | exact Mine.nzA6 (by with_reducible assumption) | exact Mine.nzZ6 (by with_reducible assumption) | exact Mine.nzA7 (by with_reducible assumption) | exact Mine.nzZ7 (by with_reducible assumption) | exact Mine.nzA8 (by with_reducible assumption) | exact Mine.nzZ8 (by with_reducible assumption) | exact Mine.nzA9 (by with_reducible assumption) | exact Mine.nzZ9 (by with_reducible assumption) | exact Mine.nzA10 (by with_reducible assumption) | exact Mine.nzZ10 (by with_reducible assumption) | exact Mine.nzA11 (by with_reducible assumption) | exact Mine.nzZ11 (by with_reducible assumption) | exact Mine.nzA12 (by with_reducible assumption) | exact Mine.nzZ12 (by with_reducible assumption) | exact Mine.nzA13 (by with_reducible assumption) | exact Mine.nzZ13 (by with_reducible assumption) | exact Mine.nzA14 (by with_reducible assumption) | exact Mine.nzZ14 (by with_reducible assumption) | exact Mine.nzA15 (by with_reducible assumption) | exact Mine.nzZ15 (by with_reducible assumption) | exact Mine.nzA16 (by with_reducible assumption) | exact Mine.nzZ16 (by with_reducible assumption)))
  | ((with_reducible refine Nat.ne_of_gt ?_); (repeat with_reducible refine Mine.nzLT ?_); (first | with_reducible assumption | exact Mine.nzA1 (by with_reducible assumption) | exact Mine.nzA2 (by with_reducible assumption) | exact Mine.nzZ2 (by with_reducible assumption) | exact Mine.nzA3 (by with_reducible assumption) | exact Mine.nzZ3 (by with_reducible assumption) | exact Mine.nzA4 (by with_reducible assumption) | exact Mine.nzZ4 (by with_reducible assumption) | exact Mine.nzA5 (by with_reducible assumption) | exact Mine.nzZ5 (by with_reducible assumption) | exact Mine.nzA6 (by with_reducible assumption) | exact Mine.nzZ6 (by with_reducible assumption) | exact Mine.nzA7 (by with_reducible assumption) | exact Mine.nzZ7 (by with_reducible assumption) | exact Mine.nzA8 (by with_reducible assumption) | exact Mine.nzZ8 (by with_reducible assumption) | exact Mine.nzA9 (by with_reducible assumption) | exact Mine.nzZ9 (by with_reducible assumption) | exact Mine.nzA10 (by with_reducible assumption) | exact Mine.nzZ10 (by with_reducible assumption) | exact Mine.nzA11 (by with_reducible assumption) | exact Mine.nzZ11 (by with_reducible assumption) | exact Mine.nzA12 (by with_reducible assumption) | exact Mine.nzZ12 (by with_reducible assumption) | exact Mine.nzA13 (by with_reducible assumption) | exact Mine.nzZ13 (by with_reducible assumption) | exact Mine.nzA14 (by with_reducible assumption) | exact Mine.nzZ14 (by with_reducible assumption) | exact Mine.nzA15 (by with_reducible assumption) | exact Mine.nzZ15 (by with_reducible assumption) | exact Mine.nzA16 (by with_reducible assumption) | exact Mine.nzZ16 (by with_reducible assumption)))
  | ((repeat with_reducible refine Mine.nzSS ?_); (first | with_reducible refine Mine.nzS0 ?_ | with_reducible refine Mine.nz0S ?_); (repeat (first | with_reducible exact Nat.le_refl _ | with_reducible refine Mine.nzLS ?_)); done)
  | (first | with_reducible assumption | exact Mine.nzA1 (by with_reducible assumption) | exact Mine.nzA2 (by with_reducible assumption) | exact Mine.nzZ2 (by with_reducible assumption) | exact Mine.nzA3 (by with_reducible assumption) | exact Mine.nzZ3 (by with_reducible assumption) | exact Mine.nzA4 (by with_reducible assumption) | exact Mine.nzZ4 (by with_reducible assumption) | exact Mine.nzA5 (by with_reducible assumption) | exact Mine.nzZ5 (by with_reducible assumption) | exact Mine.nzA6 (by with_reducible assumption) | exact Mine.nzZ6 (by with_reducible assumption) | exact Mine.nzA7 (by with_reducible assumption) | exact Mine.nzZ7 (by with_reducible assumption) | exact Mine.nzA8 (by with_reducible assumption) | exact Mine.nzZ8 (by with_reducible assumption) | exact Mine.nzA9 (by with_reducible assumption) | exact Mine.nzZ9 (by with_reducible assumption) | exact Mine.nzA10 (by with_reducible assumption) | exact Mine.nzZ10 (by with_reducible assumption) | exact Mine.nzA11 (by with_reducible assumption) | exact Mine.nzZ11 (by with_reducible assumption) | exact Mine.nzA12 (by with_reducible assumption) | exact Mine.nzZ12 (by with_reducible assumption) | exact Mine.nzA13 (by with_reducible assumption) | exact Mine.nzZ13 (by with_reducible assumption) | exact Mine.nzA14 (by with_reducible assumption) | exact Mine.nzZ14 (by with_reducible assumption) | exact Mine.nzA15 (by with_reducible assumption) | exact Mine.nzZ15 (by with_reducible assumption) | exact Mine.nzA16 (by with_reducible assumption) | exact Mine.nzZ16 (by with_reducible assumption))
  | (apply Ne.symm; (first | with_reducible assumption | exact Mine.nzA1 (by with_reducible assumption) | exact Mine.nzA2 (by with_reducible assumption) | exact Mine.nzZ2 (by with_reducible assumption) | exact Mine.nzA3 (by with_reducible assumption) | exact Mine.nzZ3 (by with_reducible assumption) | exact Mine.nzA4 (by with_reducible assumption) | exact Mine.nzZ4 (by with_reducible assumption) | exact Mine.nzA5 (by with_reducible assumption) | exact Mine.nzZ5 (by with_reducible assumption) | exact Mine.nzA6 (by with_reducible assumption) | exact Mine.nzZ6 (by with_reducible assumption) | exact Mine.nzA7 (by with_reducible assumption) | exact Mine.nzZ7 (by with_reducible assumption) | exact Mine.nzA8 (by with_reducible assumption) | exact Mine.nzZ8 (by with_reducible assumption) | exact Mine.nzA9 (by with_reducible assumption) | exact Mine.nzZ9 (by with_reducible assumption) | exact Mine.nzA10 (by with_reducible assumption) | exact Mine.nzZ10 (by with_reducible assumption) | exact Mine.nzA11 (by with_reducible assumption) | exact Mine.nzZ11 (by with_reducible assumption) | exact Mine.nzA12 (by with_reducible assumption) | exact Mine.nzZ12 (by with_reducible assumption) | exact Mine.nzA13 (by with_reducible assumption) | exact Mine.nzZ13 (by with_reducible assumption) | exact Mine.nzA14 (by with_reducible assumption) | exact Mine.nzZ14 (by with_reducible assumption) | exact Mine.nzA15 (by with_reducible assumption) | exact Mine.nzZ15 (by with_reducible assumption) | exact Mine.nzA16 (by with_reducible assumption) | exact Mine.nzZ16 (by with_reducible assumption)))
  | omega))
local macro_rules | `(tactic| k_lt $h:ident) => `(tactic| (replace $h := Mine.allLt1 $h; dsimp only [Mine.AllLt1, Mine.AllLtC] at $h:ident))
open PySem PySem.W PyProof.Rows
namespace Mine
set_option Elab.async false
def First : Prop := True
local macro_rules | `(tactic| walk_at "subscriptTail") => `(tactic| (k_here; (with_reducible show wpAny _ _ (subscriptTail (Expr.List _ _) (PySem.Expr.Slice _ _ none _) (Value.ref _) (Value.ref _)) _ _ _); k_dflt (refine kba_turn (value' := PySem.Expr.Name (PySem.Str.ofString "_") ⟨0, 0, 0, 0⟩) (fun _ => rfl) ?_); k_dflt (refine' kmk_slice_ints (vs := [_, _, _, _, _]) (ns := [6, 1, 33, 45, 4]) ?q1 ?q2 ?q3 ?q4 ?q5 ?q6 ?q7 ?q8 ?q0 ?q9 ?qa ?qb; (case q1 => k_asm); (case q2 => k_asm); (case q3 => kmk_list); (case q4 => kmk_part); (case q5 => kmk_part); (case q6 => exact .cons _ _ (.cons _ _ (.cons _ _ (.cons _ _ (.cons _ _ .nil))))); (case q7 => exact kmk_from (.cons _ _ (.cons _ _ (.cons _ _ (.cons _ _ (.cons _ _ .nil))))) (by omega)); (case q8 => exact rfl); (case q9 => with_unfolding_all rfl); (case qa => kmk_pure); (case qb => exact Nat.le_of_ble_eq_true rfl)); intro D' ws' h' F' N' l1 hI' hC' hL'; (try k_lt l1); (try k_sweep)))
def Unp : Prop := True
local macro_rules | `(tactic| walk_at "assign Tuple cons ref") => `(tactic| (k_here; (fail_if_success (have : Unp := by assumption)); refine stopHere ?_))
theorem five (ns : List Int) : ∃ a b c d e : Int, List.map (fun k' => k'.fmod 1000000) (List.take 5 ns) ++ List.drop ((List.map (fun k' => k'.fmod 1000000) (List.take 5 ns)).length : Int).toNat [6, 1, 33, 45, 4] = [a, b, c, d, e] ∧
    (0 ≤ a ∧ a < 1000000) ∧ (0 ≤ b ∧ b < 1000000) ∧ (0 ≤ c ∧ c < 1000000) ∧ (0 ≤ d ∧ d < 1000000) ∧ (0 ≤ e ∧ e < 1000000) := by
  have hm : ∀ k : Int, 0 ≤ k.fmod 1000000 ∧ k.fmod 1000000 < 1000000 := fun k => ⟨Int.fmod_nonneg_of_pos k (by decide), Int.fmod_lt_of_pos k (by decide)⟩
  match ns with
  | [] => exact ⟨6, 1, 33, 45, 4, rfl, by decide, by decide, by decide, by decide, by decide⟩
  | [x1] => exact ⟨_, 1, 33, 45, 4, rfl, hm x1, by decide, by decide, by decide, by decide⟩
  | [x1, x2] => exact ⟨_, _, 33, 45, 4, rfl, hm x1, hm x2, by decide, by decide, by decide⟩
  | [x1, x2, x3] => exact ⟨_, _, _, 45, 4, rfl, hm x1, hm x2, hm x3, by decide, by decide⟩
  | [x1, x2, x3, x4] => exact ⟨_, _, _, _, 4, rfl, hm x1, hm x2, hm x3, hm x4, by decide⟩
  | x1 :: x2 :: x3 :: x4 :: x5 :: r => exact ⟨_, _, _, _, _, rfl, hm x1, hm x2, hm x3, hm x4, hm x5⟩
theorem ints5 {ws : List Value} {a b c d e : Int} (h : IntsAre ws [a, b, c, d, e]) : ∃ t1 t2 t3 t4 t5, ws = [.int a t1, .int b t2, .int c t3, .int d t4, .int e t5] := by
  cases h with | cons _ t1 h => cases h with | cons _ t2 h => cases h with | cons _ t3 h => cases h with | cons _ t4 h => cases h with | cons _ t5 h => cases h; exact ⟨_, _, _, _, _, rfl⟩
theorem pick11 {g h : Heap} {L : Addr} {p1 x2 x3 x4 x5 x6 c8 c7 c6 c5 c4 c3 c2 c1 t1 t2 : Addr × Obj} (N : News g L h [p1, x2, x3, x4, x5, x6, c8, c7, c6, c5, c4, c3, c2, c1, t1, t2]) : News g L h [p1, c8, c7, c6, c5, c4, c3, c2, c1, t1, t2] := fun p hp => N p (by
  simp only [List.mem_cons, List.not_mem_nil, or_false] at hp ⊢
  rcases hp with h | h | h | h | h | h | h | h | h | h | h <;> simp [h])
theorem placesEq (a1 a2 a3 : Int) (h : 0 ≤ a1 ∧ 0 ≤ a2) : List.map (fun k' => a3.fmod 100 - 50 + (1 + a2.fmod 5) * k') (rangeKs 0 (1 + a1.fmod 12 - 0).toNat) = placesL (1 + a1.fmod 12).toNat ((1 + a2.fmod 5).toNat : Nat) (a3.fmod 100 - 50) := by
  have h5 : 0 ≤ a2.fmod 5 := Int.fmod_nonneg_of_pos a2 (by decide)
  unfold rangeKs placesL
  rw [List.map_map, Int.sub_zero, Int.toNat_of_nonneg (by omega)]
  refine List.map_congr_left fun i _ => ?_
  simp only [Function.comp_apply, Int.zero_add]
theorem mkLaw {g : Heap} {L : Addr} {h : Heap} {a1 a2 a3 a4 a5 : Int} {Mr : Str → Option Value} {D : Addr} {pys : List Value} {o1 o2 o3 o4 o5 o6 o7 o8 : Obj} {u1 u2 u3 u4 u5 u6 u7 : Tok} {x1 : Int} (hb : 0 ≤ a1 ∧ 0 ≤ a2)
    (F : Fr g L h (fun y => if y = Str.ofString "places" then some (.ref D) else Mr y))
    (N : News g L h [(D, LCg.lst pys), (L + 1 + 1 + 1 + 1 + 1 + 1 + 1 + 1, o8), (L + 1 + 1 + 1 + 1 + 1 + 1 + 1, o7), (L + 1 + 1 + 1 + 1 + 1 + 1, o6), (L + 1 + 1 + 1 + 1 + 1, o5), (L + 1 + 1 + 1 + 1, o4), (L + 1 + 1 + 1, o3), (L + 1 + 1, o2), (L + 1, o1), (72, tabObj #[]), (65, tabObj #[])])
    (P : IntsAre pys (List.map (fun k' => a3.fmod 100 - 50 + (1 + a2.fmod 5) * k') (rangeKs 0 (1 + a1.fmod 12 - 0).toNat)))
    (d1 : o1.data = Data.cell (some (Value.int x1 u1))) (d2 : o2.data = Data.cell (some (Value.int (1 + a2.fmod 5) u2))) (d3 : o3.data = Data.cell (some (Value.int ((1 + a1.fmod 12) * (1 + a2.fmod 5)) u3))) (d4 : o4.data = Data.cell (some (Value.int (1 + a4.fmod 8) u4)))
    (d5 : o5.data = Data.cell (some (Value.int (1 + (a4.fdiv 8).fmod 8) u5))) (d6 : o6.data = Data.cell (some (Value.int (1 + (a4.fdiv 64).fmod 7) u6))) (d7 : o7.data = Data.cell (some (Value.int (1 + a5.fmod 8) u7))) (d8 : o8.data = Data.cell none)
    (ne : D ≠ 65 ∧ D ≠ 72 ∧ D ≠ L + 1 + 1 + 1 + 1 + 1 + 1 + 1 + 1) : LawPE g L h := by
  have f : ∀ (a k : Int), 0 < k → 0 ≤ a.fmod k ∧ a.fmod k < k := fun a k hk => ⟨Int.fmod_nonneg_of_pos a hk, Int.fmod_lt_of_pos a hk⟩
  have f1 := f a1 12 (by decide)
  have f2 := f a2 5 (by decide)
  have f3 := f a3 100 (by decide)
  have f4 := f a4 8 (by decide)
  have f5 := f (a4.fdiv 8) 8 (by decide)
  have f6 := f (a4.fdiv 64) 7 (by decide)
  have f7 := f a5 8 (by decide)
  have e1 : (((1 + a1.fmod 12).toNat : Nat) : Int) = 1 + a1.fmod 12 := Int.toNat_of_nonneg (by omega)
  have e2 : (((1 + a2.fmod 5).toNat : Nat) : Int) = 1 + a2.fmod 5 := Int.toNat_of_nonneg (by omega)
  rw [placesEq a1 a2 a3 hb] at P
  refine ⟨(1 + a1.fmod 12).toNat, (1 + a2.fmod 5).toNat, a3.fmod 100 - 50, 1 + a4.fmod 8, 1 + (a4.fdiv 8).fmod 8, 1 + (a4.fdiv 64).fmod 7, 1 + a5.fmod 8, Mr, D, pys, o1, o2, o3, o4, o5, o6, o7, o8, u1, u2, u3, u4, u5, u6, u7, x1, ?_⟩
  exact ⟨⟨by omega, by omega, by omega, by omega, by omega, by omega, by omega⟩, F, N, P, d1, by unfold cellI; rw [e2]; exact d2, by unfold cellI; rw [e1, e2]; exact d3, d4, d5, d6, d7, d8, ne⟩
local macro_rules | `(tactic| walk_at "exec Assign cons ListComp") => `(tactic| ((fail_if_success (have : First := by assumption)); k_here; (with_reducible show wpAny _ _ (exec (Stmt.Assign _ (Expr.ListComp _ _ _ _) _) _) _ _ _); (fail_if_success (have : Passed := by assumption)); refine stopHere ?_))
local macro_rules | `(tactic| walk_at "CompSrc") => `(tactic| ((fail_if_success (have : First := by assumption)); k_here; refine stopHere ?_))
local macro_rules | `(tactic| walk_at "call ref") => `(tactic| ((fail_if_success (have : First := by assumption)); k_here; (first | (with_reducible show wpAny _ _ (call (Value.ref 200) _) _ _ _) | (with_reducible show wpAny _ _ (call (Value.ref 207) _) _ _ _) | (with_reducible show wpAny _ _ (call (Value.ref 214) _) _ _ _) | (with_reducible show wpAny _ _ (call (Value.ref 193) _) _ _ _) | (with_reducible show wpAny _ _ (call (Value.ref 188) _) _ _ _)); refine stopHere ?_))
abbrev fHsv (t sh lv : Int) (p : Int) : UInt64 × UInt64 × UInt64 := (hsvR (divI (p + 50 * t) t) (divI sh 8) (divI lv 8), hsvG (divI (p + 50 * t) t) (divI sh 8) (divI lv 8), hsvB (divI (p + 50 * t) t) (divI sh 8) (divI lv 8))
abbrev fHls (t sh lt : Int) (p : Int) : UInt64 × UInt64 × UInt64 := (hlsX p t sh lt, hlsY p t sh lt, hlsZ p t sh lt)
def ColPost (g : Heap) (L : Addr) (M : Str → Option Value) (x : Str) (R nv₀ : List (Addr × Obj)) (f : Int → UInt64 × UInt64 × UInt64) (ps : List Int) (h : Heap) : Prop :=
  ∃ V vs nv, Fr g L h (fun y => if y = x then some (.ref V) else M y) ∧ News g L h ((V, LCg.lst vs) :: (R ++ nv)) ∧ (∀ p ∈ nv₀, p ∈ nv) ∧ ColsN f ps ps.length vs nv ∧ (∀ p ∈ R ++ nv, p.1 ≠ V) ∧ (∀ p ∈ nv, p ∈ nv₀ ∨ ∀ q ∈ R, p.1 ≠ q.1)
theorem stepCols {prog : Program} {w : World} {A : Around} {t : Sem Flow} {Q : Flow → Shared → Prop} {E : Value → Shared → Prop} {s : Shared} {g : Heap} {L : Addr} {M : Str → Option Value} (x : Str) (R nv₀ : List (Addr × Obj)) (f : Int → UInt64 × UInt64 × UInt64) (ps : List Int) (_ : Fr g L s.heap M)
    (h1 : ∀ Q' : Flow → Shared → Prop, (∀ h tk, ColPost g L M x R nv₀ f ps h → Q' Flow.next { s with heap := h, toks := tk }) → wpAny (model prog w) A t Q' E s) (h2 : ∀ h tk, ColPost g L M x R nv₀ f ps h → Q .next { s with heap := h, toks := tk }) : wpAny (model prog w) A t Q E s := h1 Q h2
theorem neA {a b : Nat} (h : ¬ @Eq Nat a b) : @Ne Addr a b := h
theorem anyNeg {ps : List Int} {T : Int} (h : 1 ≤ T) : (ps.map (· % T)).any (fun x => x == -1) = false := by
  rw [List.any_eq_false]
  intro x hx
  obtain ⟨p, _, rfl⟩ := List.mem_map.mp hx
  have := Int.emod_nonneg p (show T ≠ 0 by omega)
  simp
  omega
theorem armP_bd {p T : Int} (h : 1 ≤ T) : 0 ≤ armP p T ∧ armP p T < 6 := by
  have h1 := Int.emod_nonneg p (show T ≠ 0 by omega)
  have h2 := Int.emod_lt_of_pos p (show 0 < T by omega)
  unfold armP
  exact ⟨Int.ediv_nonneg (by omega) (by omega), Int.ediv_lt_of_lt_mul (by omega) (by omega)⟩
theorem count6 {ps : List Int} {T : Int} (h : 1 ≤ T) : (ps.map fun p => armP p T).count 6 = 0 := by
  rw [List.count_eq_zero]
  intro hm
  obtain ⟨p, _, e⟩ := List.mem_map.mp hm
  have := (armP_bd (p := p) h).2
  omega
theorem colsArms {h₀ h : Heap} {L V : Addr} {led nv : List (Addr × Obj)} {f : Int → UInt64 × UInt64 × UInt64} {ps : List Int} {vs : List Value} {T : Int} (N : News h₀ L h led) (hV : (V, LCg.lst vs) ∈ led) (hnv : ∀ p ∈ nv, p ∈ led) (hc : ColsN f ps ps.length vs nv) (hl : ps.length ≤ 1000)
    (ha : ∀ (i : Nat) (p : Int), ps[i]? = some p → armFin (f p).1 ∧ armFin (f p).2.1 ∧ armFin (f p).2.2 ∧ armP p T = armI (armX (f p).1) (armX (f p).2.1) (armX (f p).2.2)) :
    h.IsList V vs.toArray ∧ vs.toArray.size ≤ 1000 ∧ (ps.map fun p => armP p T).length = vs.toArray.size ∧ ∀ (i : Nat) v, vs.toArray[i]? = some v → ∃ k, (ps.map fun p => armP p T)[i]? = some k ∧ ColArm h v k := by
  refine ⟨⟨_, (N _ hV).1, rfl, _, rfl⟩, by simp [hc.1, hl], by simp [hc.1], fun i v hv => ?_⟩
  have hv' : vs[i]? = some v := by simpa using hv
  have hi : i < ps.length := by rw [← hc.1]; exact (List.getElem?_eq_some_iff.mp hv').1
  obtain ⟨d, t1, t2, t3, k, h1, h2⟩ := hc.2 i _ hi (List.getElem?_eq_getElem hi)
  rw [hv'] at h1
  cases h1
  have := ha i _ (List.getElem?_eq_getElem hi)
  exact ⟨armP ps[i] T, by simp [List.getElem?_eq_getElem hi], d, _, _, _, t1, t2, t3, k, rfl, (N _ (hnv _ h2)).1, this.1, this.2.1, this.2.2.1, this.2.2.2⟩
theorem fresh2 {h₀ h : Heap} {L d : Addr} {led : List (Addr × Obj)} {o1 o2 : Obj} (N : News h₀ L h led) (m1 : ((65 : Addr), o1) ∈ led) (m2 : ((72 : Addr), o2) ∈ led) (hd : h.get? d = none) : d ≠ 65 ∧ d ≠ 72 := by
  refine ⟨fun e => ?_, fun e => ?_⟩
  · have := (N _ m1).1
    rw [← e, hd] at this; cases this
  · have := (N _ m2).1
    rw [← e, hd] at this; cases this
theorem runsEq (ps : List Int) (T : Int) : (rangeKs 0 6).map (fun k => (((ps.map fun p => armP p T).count k : Nat) : Int)) = ((List.range 6).map fun k : Nat => (ps.map (secP ((6 : Nat) : Int) T)).count (k : Int)).map Int.ofNat := by
  unfold rangeKs
  rw [List.map_map, List.map_map]
  refine List.map_congr_left fun i _ => ?_
  simp only [Function.comp_apply, Int.zero_add]
  rfl
theorem runsEq2 (ps : List Int) (T : Int) (n : Nat) : (List.range n).map (fun i : Nat => (((ps.map (secP (n : Int) T)).count (i : Int) : Nat) : Int)) = ((List.range n).map fun k : Nat => (ps.map (secP (n : Int) T)).count (k : Int)).map Int.ofNat := by
  rw [List.map_map]; rfl
theorem nameK0 {P : Prop} {K : List (Addr × Obj)} (h : ∀ p ∈ K, p.1 ≠ 65 ∧ p.1 ≠ 72) (k : ∀ K0, K = K0 → (∀ p ∈ K0, p.1 ≠ 65 ∧ p.1 ≠ 72) → P) : P := k K rfl h
local macro_rules | `(tactic| walk_at "call type:range") => `(tactic| ((fail_if_success (have : First := by assumption)); k_here; refine stopHere ?_))
local macro_rules | `(tactic| walk_at "eval ListComp") => `(tactic| ((fail_if_success (have : First := by assumption)); k_here; refine stopHere ?_))
local macro_rules | `(tactic| walk_at "CompSrcT") => `(tactic| ((fail_if_success (have : First := by assumption)); k_here; refine stopHere ?_))
local macro_rules | `(tactic| walk_at "call builtin:len") => `(tactic| ((fail_if_success (have : First := by assumption)); k_here; k_dflt (refine kun_lenL (News.isList (by k_asm) (by k_mem)) (by assumption) (by omega) ?_)))
local macro_rules | `(tactic| walk_at "call type:zip") => `(tactic| ((fail_if_success (have : First := by assumption)); k_here; refine stopHere ?_))
theorem ColsN.mono {f : Int → UInt64 × UInt64 × UInt64} {ps : List Int} {n : Nat} {vs : List Value} {nv nv' : List (Addr × Obj)} (h : ColsN f ps n vs nv) (k : ∀ p ∈ nv, p ∈ nv') : ColsN f ps n vs nv' :=
  ⟨h.1, fun j p hj hp => by obtain ⟨d, a, b, c, k', h1, h2⟩ := h.2 j p hj hp; exact ⟨d, a, b, c, k', h1, k _ h2⟩⟩
local macro_rules | `(tactic| walk_at "compareOp In ref ref") => `(tactic| ((fail_if_success (have : First := by assumption)); k_here; (with_reducible show wpAny _ _ (compareOp _ (Value.ref _) (Value.ref _)) _ _ _); k_dflt (refine inEmpty (by k_asm) (by k_mem) (by k_mem) (by assumption) (by intro p hp; simp only [List.mem_cons, hp, or_true]) (by ktr_units) ?_)))
theorem colEnd {h₀ h hz : Heap} {L I C D d : Addr} {m : Str → Option Value} {oI oC oD : Obj} {R0 R nv : List (Addr × Obj)} {c : UInt64 × UInt64 × UInt64} {s : Shared} {t1 t2 t3 : Tok} {k tz : Nat} (hR : R0 = R) (F : Fr h₀ L h m) (N : News h₀ L h ((I, oI) :: (C, oC) :: (D, oD) :: (R0 ++ nv))) (kp : Keep h hz) (dn : h.get? d = none) (dg : hz.get? d = some (col3 c t1 t2 t3 k)) :
    ColEnd h₀ L m ((I, oI) :: (C, oC) :: (D, oD) :: (R ++ nv)) c s (.ref d) { s with heap := hz, toks := tz } := by
  subst hR
  exact ⟨d, t1, t2, t3, k, hz, tz, rfl, rfl, frKeep F kp, newsKeep1 F N kp dn dg, fun p hp e => by have := (N p hp).1; rw [e, dn] at this; cases this⟩
set_option maxRecDepth 100000 in
set_option maxHeartbeats 8000000 in
theorem law_walk : hd.2.1 := (by
  delta hd
  dsimp only
  w_on
  k_go0
  (all_goals try k_fold)
  (with_reducible rename Fr _ _ _ _ => zF)
  refine lawCut zF ?first ?rest
  case first =>
    intro Q1 hQ
    have hfirst : First := trivial
    dsimp only [List.take]
    k_steps
    rename_i hI5 _
    obtain ⟨a1, a2, a3, a4, a5, he5, hb1, hb2, hb3, hb4, hb5⟩ := five _
    rw [he5] at hI5
    obtain ⟨u1, u2, u3, u4, u5, rfl⟩ := ints5 hI5
    have hunp : Unp := trivial
    unfold Stop
    k_steps
    rename_i o1
    (with_reducible rename Fr _ _ _ _ => zF)
    (with_reducible rename News _ _ _ _ => zN)
    obtain ⟨-, -, -, -, -, h8, -, -, -, -, -, -, -, h72, h65⟩ := o1
    refine hQ _ _ ?_
    refine' mkLaw (a1 := a1) (a2 := a2) (a3 := a3) (a4 := a4) (a5 := a5) ⟨hb1.1, hb2.1⟩ zF (pick11 zN) ?y0 ?y1 ?y2 ?y3 ?y4 ?y5 ?y6 ?y7 ?y8 ⟨Ne.symm h65, Ne.symm h72, Ne.symm h8⟩
    case y1 => assumption
    case y2 => assumption
    case y3 => assumption
    case y4 => assumption
    case y5 => assumption
    case y6 => assumption
    case y7 => assumption
    case y8 => assumption
    case y0 => assumption
  case rest =>
    have hunp : Unp := trivial
    clear zF
    (with_reducible rename News _ _ _ _ => zN)
    clear zN
    intro h tk hP
    obtain ⟨hN, sN, b, sh, lv, lt, se, Mr, D, pys, o1, o2, o3, o4, o5, o6, o7, o8, u1, u2, u3, u4, u5, u6, u7, x1, hP⟩ := hP
    obtain ⟨dr, F, N, hpy, d1, d2, d3, d4, d5, d6, d7, d8, hDn⟩ := hP
    have hT := turn_bd dr.s.1 dr.s.2 dr.h.1 dr.h.2
    have hpb := fun (i : Nat) (p : Int) (hp : (placesL hN sN b)[i]? = some p) => place_bd hp dr.b.1 dr.b.2 dr.s.1 dr.s.2 dr.h.1 dr.h.2
    have hpl := placesL_len hN sN b
    have hplen : pys.length = hN := by have := hpy.length; omega
    have hsz : pys.toArray.size ≤ sizeLine := by rw [sizeLine_eq]; have := dr.h.2; simp; omega
    generalize hTT : (hN : Int) * (sN : Int) = T at *
    dsimp only [List.drop]
    k_steps
    unfold Stop
    refine nameAll2 N (fun R hR NR => ?_)
    refine stepCols (Str.ofString "values") R [] (fHsv T sh lv) (placesL hN sN b) F ?v1 ?v2
    case v1 =>
      intro Q1 hQ
      replace NR := newsNil NR
      have hDR : ∀ nv, (D, LCg.lst pys) ∈ R ++ nv := fun nv => List.mem_append_left _ (by rw [← hR]; exact .head _)
      k_here
      k_dflt (refine LCg.Assign_ListComp_U (F₀ := by k_asm) (by rfl) (by with_unfolding_all rfl) (by with_unfolding_all rfl) (by decide) (by rfl) (by decide) (by rfl) (by rfl) (by rfl) ?_)
      k_steps
      unfold Stop
      refine LCg.CompSrc.ledger (by rfl) F NR (hDR []) hsz ?_
      intro g'
      refine compCols (fHsv T sh lv) (placesL hN sN b) R [] (by simp [hplen, hpl]) hpy (fun nv => .inr ⟨_, hDR nv, rfl, _, rfl⟩) ?_ ?_
      · intro i p t I oI C oC D2 m₂ h2 tk2 nv ys E' hp hC hx F2 N2 ne
        have hpp := hpb i p hp
        have hok := hsv_ok (sh := sh) (lv := lv) dr.sh.1 dr.sh.2 dr.lv.1 dr.lv.2 hT.1 hT.2 hpp.1 hpp.2.1
        rw [← hR] at N2
        simp only [List.cons_append, List.nil_append] at N2
        clear N NR
        k_steps
        unfold Stop
        (with_reducible rename Fr _ _ _ _ => zF)
        (with_reducible rename News _ _ _ _ => zN)
        k_dflt (refine' lhsv_spec _ p T sh lv _ _ _ _ _ _ _ _ _ _ _ _ _ _ _ _ _ _ _ _ _ _ _ _ ?k1 ?k2 ?k3 ?k5 ?k6 ?k8 ?k9 ?k10 ?_; (case k1 => k_asm); (case k2 => k_asm); (case k3 => k_asm); (case k5 => k_asm); (case k6 => exact rfl); (case k8 => exact hok); (case k9 => ktr_room); (case k10 => ktr_units); k_whole)
        intro d9 ta tb tc n9 hz tz kp dn dg
        exact colEnd hR zF zN kp dn dg
      · intro ys nv hsub hoff hc D3 h3 tk3 F3 N3 o3
        exact hQ _ _ ⟨D3, ys, nv, F3, N3, hsub, hc, off1_mem o3, hoff⟩
    case v2 =>
      clear N NR
      intro h tk hP
      obtain ⟨V, vs, nv, F, N, -, hcv, hoV, hon⟩ := hP
      k_steps
      unfold Stop
      refine stepCols (Str.ofString "lights") ((V, LCg.lst vs) :: R) nv (fHls T sh lt) (placesL hN sN b) F ?l1 ?l2
      case l1 =>
        intro Q1 hQ
        have hDR : ∀ nv, (D, LCg.lst pys) ∈ ((V, LCg.lst vs) :: R) ++ nv := fun nv => .tail _ (List.mem_append_left _ (by rw [← hR]; exact .head _))
        k_here
        k_dflt (refine LCg.Assign_ListComp_U (F₀ := by k_asm) (by rfl) (by with_unfolding_all rfl) (by with_unfolding_all rfl) (by decide) (by rfl) (by decide) (by rfl) (by rfl) (by rfl) ?_)
        k_steps
        unfold Stop
        refine LCg.CompSrc.ledger (by rfl) F N (hDR nv) hsz ?_
        intro g'
        refine compCols (fHls T sh lt) (placesL hN sN b) ((V, LCg.lst vs) :: R) nv (by simp [hplen, hpl]) hpy (fun nv => .inr ⟨_, hDR nv, rfl, _, rfl⟩) ?_ ?_
        · intro i p t I oI C oC D2 m₂ h2 tk2 nv2 ys E' hp hC hx F2 N2 ne
          have hpp := hpb i p hp
          have hok := hls_ok (sh := sh) (lt := lt) (p := p) dr.sh.1 dr.sh.2 dr.lt.1 dr.lt.2 hT.1 hT.2 (by omega) (by omega)
          rw [← hR] at N2
          simp only [List.cons_append, List.nil_append] at N2
          clear N
          k_steps
          unfold Stop
          (with_reducible rename Fr _ _ _ _ => zF)
          (with_reducible rename News _ _ _ _ => zN)
          k_dflt (refine' lhls_spec _ p T sh lt _ _ _ _ _ _ _ _ _ _ _ _ _ _ _ _ _ _ _ _ _ _ _ _ ?k1 ?k2 ?k3 ?k5 ?k6 ?k8 ?k9 ?k10 ?_; (case k1 => k_asm); (case k2 => k_asm); (case k3 => k_asm); (case k5 => k_asm); (case k6 => exact rfl); (case k8 => exact hok); (case k9 => ktr_room); (case k10 => ktr_units); k_whole)
          intro d9 ta tb tc n9 hz tz kp dn dg
          exact colEnd (congrArg (List.cons (V, LCg.lst vs)) hR) zF zN kp dn dg
        · intro ys nv2 hsub hoff hc D3 h3 tk3 F3 N3 o3
          exact hQ _ _ ⟨D3, ys, nv2, F3, N3, hsub, hc, off1_mem o3, hoff⟩
      case l2 =>
        clear N
        intro h tk hP
        obtain ⟨Wl, ws, nv2, F, N, hsub, hcw, hoW, hon2⟩ := hP
        replace hcv := hcv.mono hsub
        clear hsub
        have hK0 := k0_off (oW := LCg.lst ws) (by assumption) hDn hR hoV hoW hon hon2
        have hK8 := k8_off (oW := LCg.lst ws) (by assumption) hDn hR hoV hoW hon hon2
        have N0 := N
        rw [← hR] at N0
        simp only [List.cons_append, List.nil_append] at N0
        clear N hoV hoW hon hon2 hR
        have hwl : ws.length = hN := by rw [hcw.1, hpl]
        have hh1 := dr.h.1
        have hh2 := dr.h.2
        k_steps
        unfold Stop
        (with_reducible rename Fr _ _ _ _ => zF)
        refine nameK0 hK0 (fun K0 hK0e hK0 => ?_)
        k_here
        refine wpAny_Assign_Name ?_ (by with_unfolding_all rfl)
        refine ListComp_ZF zF (by rfl) (by with_unfolding_all rfl) (by decide) (by rfl) (by decide) (by rfl) (by rfl) (by decide) ?_
        k_steps
        unfold Stop
        (with_reducible rename Fr _ _ _ _ => zF)
        (with_reducible rename News _ _ _ _ => zN)
        have hmW : (Wl, LCg.lst ws) ∈ K0 := by rw [← hK0e]; exact .head _
        have hmD : (D, LCg.lst pys) ∈ K0 := by rw [← hK0e]; exact .tail _ (.tail _ (.head _))
        have hmN : ∀ p ∈ nv2, p ∈ K0 := fun p hp => by rw [← hK0e]; simp only [List.mem_cons, hp, or_true]
        refine zipSrc (nw₀ := (72, tabObj #[]) :: (65, tabObj #[]) :: K0) (RInv K0 (placesL hN sN b) T) zF zN (by k_mem) (by k_mem) (by omega) (by omega) ?sub (.inl ⟨rfl, rfl, rfl⟩) ?keep ?turn ?fin
        case sub =>
          intro p hp
          rw [← hK0e] at hp
          simp only [List.mem_cons] at hp ⊢
          rcases hp with h | h | h | h | h | h | h | h | h | h | h | h | h | h <;> simp [h]
        case keep =>
          rintro i zs nw (⟨_, _, rfl⟩ | ⟨c1, oc1, vs1, tq1, c2, oc2, vs2, tq2, _, rfl, _⟩)
          · exact ⟨.tail _ (.tail _ hmW), .tail _ (.tail _ hmD)⟩
          · exact ⟨.tail _ (.tail _ (.tail _ (.tail _ hmW))), .tail _ (.tail _ (.tail _ (.tail _ hmD)))⟩
        case turn =>
          intro b9 C D3 i zs nw v₁ v₂ its oC m₂ h2 tk2 E' hi J hv1 hv2 hits hC hm1 hm2 F2 N2 off2
          obtain ⟨q1, q2, q3, q4, q5, rfl⟩ := five_its hits
          obtain ⟨p, tp, rfl, hp⟩ := IntsAre.at hpy i v₂ hv2
          obtain ⟨d, ta, tb, tc, kk, hvd, hmd⟩ := hcw.2 i p (by omega) hp
          rw [hvd] at hv1
          cases hv1
          have hpp := hpb i p hp
          have hok := read_ok (sh := sh) (lt := lt) (p := p) dr.sh.1 dr.sh.2 dr.lt.1 dr.lt.2 hT.1 hT.2 hpp.1 hpp.2.1 hpp.2.2
          have hmdK := hmN _ hmd
          clear zF zN
          rcases J with ⟨rfl, rfl, rfl⟩ | ⟨c1, oc1, vs1, tq1, c2, oc2, vs2, tq2, x, rfl, hcK, hI⟩
          · have N3 := N2
            rw [← hK0e] at N3
            simp only [List.cons_append, List.nil_append] at N3
            clear N2
            k_steps
            unfold Stop
            (with_reducible rename Fr _ _ _ _ => zF)
            (with_reducible rename News _ _ _ _ => zN)
            have zn := newsTab zN (by k_mem) (by k_mem)
            k_dflt (refine' read_T0 _ d kk (hlsX p T sh lt) (hlsY p T sh lt) (hlsZ p T sh lt) p T sh lt ta tb tc _ _ _ _ _ _ _ _ _ _ _ _ _ _ _ _ _ _ _ _ _ _ _ _ ?k1 ?k2 ?k3 ?k4 ?k5 ?k6 ?kC1 ?kC2 ?k8 ?k9 ?k10 ?_; (case k1 => k_asm); (case k2 => k_asm); (case k3 => k_asm); (case k4 => exact zn); (case k5 => k_asm); (case k6 => exact rfl); (case kC1 => assumption); (case kC2 => assumption); (case k8 => exact ⟨(zN (d, col3 (fHls T sh lt p) ta tb tc kk) (by simp only [List.mem_cons, hmd, or_true])).1, hok⟩); (case k9 => ktr_room); (case k10 => ktr_units); k_whole)
            intro tt hz tz kb t0
            exact zEnd0 (its := [_, _, _, _, _]) zF (by rw [← hK0e]; exact zN) off2 hK0 kb t0 hp
          · have N3 := N2
            rw [← hK0e] at N3
            simp only [tabsR, List.cons_append, List.nil_append] at N3
            clear N2
            k_steps
            unfold Stop
            (with_reducible rename Fr _ _ _ _ => zF)
            (with_reducible rename News _ _ _ _ => zN)
            have zn := newsTab zN (by k_mem) (by k_mem)
            k_dflt (refine' read_T1 _ c1 oc1 vs1 tq1 c2 oc2 vs2 tq2 d kk (hlsX p T sh lt) (hlsY p T sh lt) (hlsZ p T sh lt) p T sh lt ta tb tc _ _ _ _ _ _ _ _ _ _ _ _ _ _ _ _ _ _ _ _ _ _ _ _ ?k1 ?k2 ?k3 ?k4 ?k5 ?k6 ?kC1 ?kC2 ?k8 ?k9 ?k10 ?_; (case k1 => k_asm); (case k2 => k_asm); (case k3 => k_asm); (case k4 => exact zn); (case k5 => k_asm); (case k6 => exact rfl); (case kC1 => assumption); (case kC2 => assumption); (case k8 => exact ⟨x.fa zN (by k_mem) (by k_mem) (by k_mem) (by k_mem), (zN (d, col3 (fHls T sh lt p) ta tb tc kk) (by simp only [List.mem_cons, hmd, or_true])).1, hok⟩); (case k9 => ktr_room); (case k10 => ktr_units); k_whole)
            intro tt hz tz kb
            exact zEnd1 (its := [_, _, _, _, _]) x zF (by rw [← hK0e]; exact zN) off2 kb hcK hI hp
        case fin =>
          intro Rd zs nw h3 tk3 J F3 N3 off3
          rcases J with ⟨e0, _⟩ | ⟨c1, oc1, vs1, tq1, c2, oc2, vs2, tq2, x, rfl, hcK, hI⟩
          · omega
          · clear zF zN
            rw [List.take_of_length_le (by omega)] at hI
            have N4 := N3
            rw [← hK0e] at N4 off3 hcK
            simp only [tabsR, List.cons_append, List.nil_append] at N4
            clear N3
            refine stCN (own := [(Rd, _), (72, _), (65, _), (c1, _), (c2, _), (Wl, _), (V, _), (D, _)]) (rest := _) F3 N4 (by rfl) d8 ?h1 ?h2 ?h3 (by rfl) (by rfl)
            case h1 =>
              intro p hp
              simp only [List.mem_cons, List.not_mem_nil, or_false] at hp
              rcases hp with rfl | rfl | rfl | rfl | rfl | rfl | rfl | rfl
              · exact fun e => off3 _ (.tail _ (.tail _ (.tail _ (.tail _ (.tail _ (.tail _ (.tail _ (.head _)))))))) e.symm
              · refine neA ?_; dsimp only; omega
              · refine neA ?_; dsimp only; omega
              · exact (hcK _ (.tail _ (.tail _ (.tail _ (.head _))))).1
              · exact (hcK _ (.tail _ (.tail _ (.tail _ (.head _))))).2
              · exact hK8.1.1
              · exact hK8.1.2
              · exact hDn.2.2
            case h2 =>
              intro p hp
              simp only [List.mem_cons] at hp
              rcases hp with rfl | rfl | rfl | rfl | rfl | rfl | rfl | hp
              · refine neA ?_; dsimp only; omega
              · refine neA ?_; dsimp only; omega
              · refine neA ?_; dsimp only; omega
              · refine neA ?_; dsimp only; omega
              · refine neA ?_; dsimp only; omega
              · refine neA ?_; dsimp only; omega
              · refine neA ?_; dsimp only; omega
              · exact hK8.2 p hp
            case h3 =>
              intro h5 o8' F5 N5 d8'
              simp only [List.cons_append, List.nil_append] at N5
              clear N4 F3
              have hzl : zs.length = hN := by have := hI.length; simp at this; omega
              have hany := anyNeg (ps := placesL hN sN b) hT.1
              have hc6 : ((placesL hN sN b).map fun p => armP p T).count 6 = 0 := count6 hT.1
              have hav := fun (i : Nat) (p : Int) (hp : (placesL hN sN b)[i]? = some p) => arm_hsv (sh := sh) (lv := lv) dr.sh.1 dr.sh.2 dr.lv.1 dr.lv.2 hT.1 hT.2 (hpb i p hp).1 (hpb i p hp).2.1
              have haw := fun (i : Nat) (p : Int) (hp : (placesL hN sN b)[i]? = some p) => arm_hls (sh := sh) (lt := lt) (p := p) dr.sh.1 dr.sh.2 dr.lt.1 dr.lt.2 hT.1 hT.2 (by have := hpb i p hp; omega) (by have := hpb i p hp; omega)
              k_steps
              unfold Stop
              (with_reducible rename Fr _ _ _ _ => zF)
              (with_reducible rename News _ _ _ _ => zN)
              k_dflt (refine' arms_spec _ V vs.toArray ((placesL hN sN b).map fun p => armP p T) _ _ _ _ _ _ _ _ _ _ _ _ _ _ _ _ _ _ _ _ ?k1 ?k2 ?k3 ?k5 ?k6 ?k8 ?k9 ?k10 ?_; (case k1 => k_asm); (case k2 => k_asm); (case k3 => k_asm); (case k5 => k_asm); (case k6 => exact rfl); (case k8 => exact colsArms zN (by k_mem) (by intro p hp; simp only [List.mem_cons, hp, or_true]) hcv (by omega) hav); (case k9 => ktr_room); (case k10 => ktr_units); k_whole)
              intro dA dlA ysA nA tA hzA tzA kpA dnA lnA dgA lgA hiA dneA
              rw [hc6] at dgA
              have neA := fresh2 zN (by k_mem) (by k_mem) lnA
              have FA := frKeep zF kpA
              have NA := newsKeepC zF (newsKeepC zF (newsKeep zN kpA) lnA lgA) dnA dgA
              clear zF zN kpA dgA lgA
              k_steps
              unfold Stop
              (with_reducible rename Fr _ _ _ _ => zF)
              (with_reducible rename News _ _ _ _ => zN)
              k_dflt (refine' arms_spec _ Wl ws.toArray ((placesL hN sN b).map fun p => armP p T) _ _ _ _ _ _ _ _ _ _ _ _ _ _ _ _ _ _ _ _ ?k1 ?k2 ?k3 ?k5 ?k6 ?k8 ?k9 ?k10 ?_; (case k1 => k_asm); (case k2 => k_asm); (case k3 => k_asm); (case k5 => k_asm); (case k6 => exact rfl); (case k8 => exact colsArms zN (by k_mem) (by intro p hp; simp only [List.mem_cons, hp, or_true]) hcw (by omega) haw); (case k9 => ktr_room); (case k10 => ktr_units); k_whole)
              intro dB dlB ysB nB tB hzB tzB kpB dnB lnB dgB lgB hiB dneB
              rw [hc6] at dgB
              have neB := fresh2 zN (by k_mem) (by k_mem) lnB
              have FB := frKeep zF kpB
              have NB := newsKeepC zF (newsKeepC zF (newsKeep zN kpB) lnB lgB) dnB dgB
              clear zF zN kpB dgB lgB
              k_steps
              unfold Stop
              k_here
              k_dflt (refine Assign_ListComp_S (by k_asm) (by rfl) (by with_unfolding_all rfl) (by with_unfolding_all rfl) (by rfl) (by decide) (fun _ _ => rfl) (fun _ => rfl) (by rfl) (by rfl) (by rfl) ?_)
              k_steps
              unfold Stop
              (with_reducible rename Fr _ _ _ _ => zF)
              (with_reducible rename News _ _ _ _ => zN)
              obtain ⟨seN, rfl⟩ : ∃ k : Nat, se = (k : Int) := ⟨se.toNat, by have := dr.se.1; omega⟩
              refine rangeSrc seN (fun i => (((placesL hN sN b).map (secP (seN : Int) T)).count (i : Int) : Nat)) _ zF zN (fun _ h => h) (by rfl) rfl (by have := dr.se.2; omega) ?t1 ?t2
              case t1 =>
                intro i zs2 I oI C oC S oS D2 u9 h9 tk9 E9 hi hoS F9 N9
                clear zF zN
                k_steps
                unfold Stop
                k_here
                k_dflt (refine' LCt.ListComp_T (cl := [(Str.ofString "turn", _), (Str.ofString "sectors", _), (Str.ofString "sector", S)]) (F₀ := by k_asm) ?cc1 ?cc2 ?cc3 ?cc4 ?cc5 ?cc6)
                case cc2 => decide
                case cc3 => rfl
                case cc4 => decide
                case cc5 => rfl
                case cc1 => exact rfl
                k_steps
                unfold Stop
                (with_reducible rename Fr _ _ _ _ => zF)
                (with_reducible rename News _ _ _ _ => zN)
                refine nameAll2 zN (fun R9 hR9 NR9 => ?_)
                have hmRd : (Rd, LCg.lst zs) ∈ R9 := by rw [← hR9]; k_mem
                refine LCt.CompSrcT.ledger (by rfl) zF NR9 hmRd (by rw [sizeLine_eq]; simp; omega) ?_
                intro g'
                refine compFilt ((placesL hN sN b).map (· % T)) (fun k => decide ((k * (seN : Int)).fdiv T = (i : Int))) R9 (by simp; omega) hI (.inr ⟨_, hmRd, rfl, _, rfl⟩) ?test ?item ?fin2
                case test =>
                  intro k t I2 oI2 C2 oC2 D4 m₂ h tk ys E' hk hC hx F2 N2
                  subst hR9
                  have hkb : 0 ≤ k ∧ k < T := by
                    obtain ⟨p, _, rfl⟩ := List.mem_map.mp hk
                    exact ⟨Int.emod_nonneg _ (by omega), Int.emod_lt_of_pos _ (by omega)⟩
                  have hseb := dr.se.2
                  have hTb := hT.2
                  clear zF zN NR9
                  k_steps
                  (with_reducible rename Fr _ _ _ _ => zF)
                  (with_reducible rename News _ _ _ _ => zN)
                  exact ⟨rfl, _, _, rfl, zF, zN⟩
                case item =>
                  intro k t I2 oI2 C2 oC2 D4 m₂ h tk ys E' hk hC hx F2 N2
                  subst hR9
                  clear zF zN NR9
                  k_steps
                  (with_reducible rename Fr _ _ _ _ => zF)
                  (with_reducible rename News _ _ _ _ => zN)
                  exact ⟨_, _, _, rfl, rfl, zF, zN⟩
                case fin2 =>
                  intro ys hys D5 h5 tk5 F5 N5 o5
                  subst hR9
                  clear zF zN NR9
                  have hylen : (ys.toArray.size : Int) = (((placesL hN sN b).map (secP (seN : Int) T)).count (i : Int) : Nat) := by
                    rw [← sec_count hT.1, ← hys.length]; simp
                  have hcnt : ((((placesL hN sN b).map (secP (seN : Int) T)).count (i : Int) : Nat) : Int) ≤ 100 := by
                    have := List.count_le_length (a := (i : Int)) (l := (placesL hN sN b).map (secP (seN : Int) T))
                    rw [List.length_map, hpl] at this
                    omega
                  k_steps
                  (with_reducible rename Fr _ _ _ _ => zF)
                  (with_reducible rename News _ _ _ _ => zN)
                  exact ⟨_, _, _, rfl, rfl, zF, fun p hp => zN p (.tail _ hp)⟩
              case t2 =>
                intro Dh zs2 h9 tk9 hI2 F9 N9 off9
                have h6 : Two ((List.range 6).map fun k : Nat => ((placesL hN sN b).map (secP ((6 : Nat) : Int) T)).count (k : Int)) := by
                  have := two_runs (b := b) dr.h.1 dr.h.2 dr.s.1 dr.s.2 (N := 6) (by decide) (by decide)
                  rwa [hTT] at this
                have hS : Two ((List.range seN).map fun k : Nat => ((placesL hN sN b).map (secP (seN : Int) T)).count (k : Int)) := by
                  have := two_runs (b := b) dr.h.1 dr.h.2 dr.s.1 dr.s.2 (N := seN) (by have := dr.se.1; omega) (by have := dr.se.2; omega)
                  rwa [hTT] at this
                rw [runsEq] at hiA hiB
                rw [runsEq2] at hI2
                have neH : Dh ≠ 65 ∧ Dh ≠ 72 := ⟨fun e => off9 (65, tab65 c1) (by k_mem) e.symm, fun e => off9 (72, tab72 c2) (by k_mem) e.symm⟩
                clear zF zN
                k_steps
                unfold Stop
                (with_reducible rename Fr _ _ _ _ => zF)
                (with_reducible rename News _ _ _ _ => zN)
                have znP := newsTab zN (by k_mem) (by k_mem)
                k_dflt (refine' deal_T1 _ c1 oc1 vs1 tq1 c2 oc2 vs2 tq2 dlA ysA.toArray ((List.range 6).map fun k : Nat => ((placesL hN sN b).map (secP ((6 : Nat) : Int) T)).count (k : Int)) _ _ _ _ _ _ _ _ _ _ _ _ _ _ _ _ _ _ _ _ ?k1 ?k2 ?k3 ?k4 ?k5 ?k6 ?kC1 ?kC2 ?k8 ?k9 ?k10 ?_; (case k1 => k_asm); (case k2 => k_asm); (case k3 => k_asm); (case k4 => exact znP); (case k5 => k_asm); (case k6 => exact rfl); (case kC1 => assumption); (case kC2 => assumption); (case k8 => exact ⟨x.fa zN (by k_mem) (by k_mem) (by k_mem) (by k_mem), News.isList zN (by k_mem), neA.1, neA.2, hiA, h6⟩); (case k9 => ktr_room); (case k10 => ktr_units); k_whole)
                intro hzP tzP kpP
                have FP := frKeep zF kpP
                have NP := newsKeep zN kpP
                clear zF zN kpP znP
                k_steps
                unfold Stop
                (with_reducible rename Fr _ _ _ _ => zF)
                (with_reducible rename News _ _ _ _ => zN)
                have znQ := newsTab zN (by k_mem) (by k_mem)
                k_dflt (refine' deal_T1 _ c1 oc1 vs1 tq1 c2 oc2 vs2 tq2 dlB ysB.toArray ((List.range 6).map fun k : Nat => ((placesL hN sN b).map (secP ((6 : Nat) : Int) T)).count (k : Int)) _ _ _ _ _ _ _ _ _ _ _ _ _ _ _ _ _ _ _ _ ?k1 ?k2 ?k3 ?k4 ?k5 ?k6 ?kC1 ?kC2 ?k8 ?k9 ?k10 ?_; (case k1 => k_asm); (case k2 => k_asm); (case k3 => k_asm); (case k4 => exact znQ); (case k5 => k_asm); (case k6 => exact rfl); (case kC1 => assumption); (case kC2 => assumption); (case k8 => exact ⟨x.fa zN (by k_mem) (by k_mem) (by k_mem) (by k_mem), News.isList zN (by k_mem), neB.1, neB.2, hiB, h6⟩); (case k9 => ktr_room); (case k10 => ktr_units); k_whole)
                intro hzQ tzQ kpQ
                have FQ := frKeep zF kpQ
                have NQ := newsKeep zN kpQ
                clear zF zN kpQ znQ
                k_steps
                unfold Stop
                (with_reducible rename Fr _ _ _ _ => zF)
                (with_reducible rename News _ _ _ _ => zN)
                have znS := newsTab zN (by k_mem) (by k_mem)
                k_dflt (refine' deal_T1 _ c1 oc1 vs1 tq1 c2 oc2 vs2 tq2 Dh zs2.toArray ((List.range seN).map fun k : Nat => ((placesL hN sN b).map (secP (seN : Int) T)).count (k : Int)) _ _ _ _ _ _ _ _ _ _ _ _ _ _ _ _ _ _ _ _ ?k1 ?k2 ?k3 ?k4 ?k5 ?k6 ?kC1 ?kC2 ?k8 ?k9 ?k10 ?_; (case k1 => k_asm); (case k2 => k_asm); (case k3 => k_asm); (case k4 => exact znS); (case k5 => k_asm); (case k6 => exact rfl); (case kC1 => assumption); (case kC2 => assumption); (case k8 => exact ⟨x.fa zN (by k_mem) (by k_mem) (by k_mem) (by k_mem), News.isList zN (by k_mem), neH.1, neH.2, hI2, hS⟩); (case k9 => ktr_room); (case k10 => ktr_units); k_whole)
                intro hzS tzS kpS
                have FS := frKeep zF kpS
                have NS := newsKeep zN kpS
                clear zF zN kpS znS
                k_steps
                )
end Mine
end
section -- KEnd
theorem Mine.wTopOff33 : True := by w_top off; trivial
local macro_rules | `(tactic| walk_at "no such line") => `(tactic| fail)
local macro_rules | `(tactic| walk_at "no such line") => `(tactic| fail)
local macro_rules | `(tactic| walk_at "no such line") => `(tactic| fail)
local macro_rules | `(tactic| walk_at "no such line") => `(tactic| fail)
local macro_rules | `(tactic| walk_at "no such line") => `(tactic| fail)
local macro_rules | `(tactic| walk_at "no such line") => `(tactic| fail)
local macro_rules | `(tactic| walk_at "no such line") => `(tactic| fail)
local macro_rules | `(tactic| walk_at "no such line") => `(tactic| fail)
local macro_rules | `(tactic| walk_at "no such line") => `(tactic| fail)
local macro_rules | `(tactic| walk_at "no such line") => `(tactic| fail)
local macro_rules | `(tactic| walk_at "no such line") => `(tactic| fail)
local macro_rules | `(tactic| walk_at "no such line") => `(tactic| fail)
local macro_rules | `(tactic| walk_at "no such line") => `(tactic| fail)
local macro_rules | `(tactic| walk_at "no such line") => `(tactic| fail)
local macro_rules | `(tactic| walk_at "no such line") => `(tactic| fail)
local macro_rules | `(tactic| walk_at "no such line") => `(tactic| fail)
local macro_rules | `(tactic| walk_at "no such line") => `(tactic| fail)
local macro_rules | `(tactic| walk_at "no such line") => `(tactic| fail)
local macro_rules | `(tactic| walk_at "no such line") => `(tactic| fail)
local macro_rules | `(tactic| walk_at "no such line") => `(tactic| fail)
local macro_rules | `(tactic| walk_at "no such line") => `(tactic| fail)
local macro_rules | `(tactic| walk_at "no such line") => `(tactic| fail)
local macro_rules | `(tactic| walk_at "no such line") => `(tactic| fail)
local macro_rules | `(tactic| walk_at "no such line") => `(tactic| fail)
local macro_rules | `(tactic| walk_at "no such line") => `(tactic| fail)
local macro_rules | `(tactic| walk_at "no such line") => `(tactic| fail)
local macro_rules | `(tactic| walk_at "no such line") => `(tactic| fail)
local macro_rules | `(tactic| walk_at "no such line") => `(tactic| fail)
local macro_rules | `(tactic| walk_at "no such line") => `(tactic| fail)
local macro_rules | `(tactic| walk_at "no such line") => `(tactic| fail)
local macro_rules | `(tactic| walk_at "no such line") => `(tactic| fail)
local macro_rules | `(tactic| walk_at "no such line") => `(tactic| fail)
local macro_rules | `(tactic| walk_at "no such line") => `(tactic| fail)
local macro_rules | `(tactic| walk_at "no such line") => `(tactic| fail)
local macro_rules | `(tactic| walk_at "no such line") => `(tactic| fail)
local macro_rules | `(tactic| walk_at "no such line") => `(tactic| fail)
local macro_rules | `(tactic| walk_at "no such line") => `(tactic| fail)
local macro_rules | `(tactic| walk_at "no such line") => `(tactic| fail)
local macro_rules | `(tactic| walk_at "no such line") => `(tactic| fail)
local macro_rules | `(tactic| walk_at "no such line") => `(tactic| fail)
local macro_rules | `(tactic| walk_at "no such line") => `(tactic| fail)
local macro_rules | `(tactic| walk_at "no such line") => `(tactic| fail)
local macro_rules | `(tactic| walk_at "no such line") => `(tactic| fail)
local macro_rules | `(tactic| walk_at "no such line") => `(tactic| fail)
local macro_rules | `(tactic| walk_at "no such line") => `(tactic| fail)
local macro_rules | `(tactic| walk_at "no such line") => `(tactic| fail)
local macro_rules | `(tactic| walk_at "no such line") => `(tactic| fail)
local macro_rules | `(tactic| walk_at "no such line") => `(tactic| fail)
local macro_rules | `(tactic| walk_at "no such line") => `(tactic| fail)
local macro_rules | `(tactic| walk_at "no such line") => `(tactic| fail)
open PySem PySem.W PyProof.Rows
set_option maxRecDepth 100000
set_option maxHeartbeats 8000000
namespace Mine
def lawEnd.tw7850768517075392672 : Unit := ()
def lawEnd.tw16812497667252227360 : Unit := ()
def lawEnd.tw11861539379296042912 : Unit := ()
def lawEnd.tw6609773988942040129 : Unit := ()
def lawEnd.tw700120803736832609 : Unit := ()
def lawEnd.tw1245351778688725665 : Unit := ()
def lawEnd.tw6262731476898650785 : Unit := ()
def lawEnd.tw4272008889892654753 : Unit := ()
def lawEnd.tw277074542938603233 : Unit := ()
def lawEnd.tw15581858594454428577 : Unit := ()
def lawEnd.tw17274082780693230594 : Unit := ()
def lawEnd.tw3027563504322927778 : Unit := ()
def lawEnd.tw12386447845510214914 : Unit := ()
def lawEnd.tw16628810116144753954 : Unit := ()
def lawEnd.tw12818194478872374946 : Unit := ()
def lawEnd.tw16227152233422302050 : Unit := ()
def lawEnd.tw6786880187777333122 : Unit := ()
def lawEnd.tw1251738903884085154 : Unit := ()
def lawEnd.tw2732726809481060322 : Unit := ()
def lawEnd.tw1656630212203590755 : Unit := ()
def lawEnd.tw11278385169744274563 : Unit := ()
def lawEnd.tw15750330985336239395 : Unit := ()
def lawEnd.tw3453605088860306147 : Unit := ()
def lawEnd.tw7477212421604533027 : Unit := ()
def lawEnd.tw3538793116169416483 : Unit := ()
def lawEnd.tw12869466882590002083 : Unit := ()
def lawEnd.tw2009609654595555267 : Unit := ()
def lawEnd.tw8852912417617710019 : Unit := ()
def lawEnd.tw10691546281669647364 : Unit := ()
def lawEnd.tw11226860878345700580 : Unit := ()
def lawEnd.tw15743859526923490532 : Unit := ()
def lawEnd.tw12748271565837627684 : Unit := ()
def lawEnd.tw7287015908968725828 : Unit := ()
def lawEnd.tw12151027835664584260 : Unit := ()
def lawEnd.tw12216590158278182500 : Unit := ()
def lawEnd.tw5465121855579997860 : Unit := ()
def lawEnd.tw718775137120624677 : Unit := ()
def lawEnd.tw937172780702247109 : Unit := ()
def lawEnd.tw1702084699991380197 : Unit := ()
def lawEnd.tw5418256684448759397 : Unit := ()
def lawEnd.tw6991441650598819461 : Unit := ()
def lawEnd.tw17245010054054879045 : Unit := ()
def lawEnd.tw2597512347142013062 : Unit := ()
def lawEnd.tw8802101695533850758 : Unit := ()
def lawEnd.tw5114822125846566118 : Unit := ()
def lawEnd.tw4239283766611697254 : Unit := ()
def lawEnd.tw1758210990664521318 : Unit := ()
def lawEnd.tw205412513702228742 : Unit := ()
def lawEnd.tw12464291620838151942 : Unit := ()
def lawEnd.tw12130680780316408774 : Unit := ()
def lawEnd.tw4157711545021483431 : Unit := ()
def lawEnd.tw16341913831224209095 : Unit := ()
def lawEnd.tw13137241970652717031 : Unit := ()
def lawEnd.tw17276086276453074952 : Unit := ()
def lawEnd.tw4441984512036902024 : Unit := ()
def lawEnd.tw3575494421214360808 : Unit := ()
def lawEnd.tw1374177838048792936 : Unit := ()
def lawEnd.tw1510865175609471560 : Unit := ()
def lawEnd.tw6067594340387233352 : Unit := ()
def lawEnd.tw3517560372150476488 : Unit := ()
def lawEnd.tw2920318020246604616 : Unit := ()
def lawEnd.tw18065889834338048872 : Unit := ()
def lawEnd.tw3325205046150872040 : Unit := ()
def lawEnd.tw13324303014985562088 : Unit := ()
def lawEnd.tw15011040519886800009 : Unit := ()
def lawEnd.tw10067767774165859657 : Unit := ()
def lawEnd.tw2024507763117462889 : Unit := ()
def lawEnd.tw3893621185490420169 : Unit := ()
def lawEnd.tw987296413943991785 : Unit := ()
def lawEnd.tw7921549533559266825 : Unit := ()
def lawEnd.tw14412454423334065737 : Unit := ()
def lawEnd.tw14631130562026723466 : Unit := ()
def lawEnd.tw7716558891189909706 : Unit := ()
def lawEnd.tw9743715194076337354 : Unit := ()
def lawEnd.tw14013425625303167210 : Unit := ()
def lawEnd.tw18413152895368777002 : Unit := ()
def lawEnd.tw14955644408898835818 : Unit := ()
def lawEnd.tw12319349099093243530 : Unit := ()
def lawEnd.tw9376483094993126058 : Unit := ()
def lawEnd.tw7890088196099197738 : Unit := ()
def lawEnd.tw12876029397480174410 : Unit := ()
def lawEnd.tw15132382043735769163 : Unit := ()
def lawEnd.tw10796080587446188235 : Unit := ()
def lawEnd.tw7540879466890802667 : Unit := ()
def lawEnd.tw7099616086716499467 : Unit := ()
def lawEnd.tw3017687467803944491 : Unit := ()
def lawEnd.tw13189504339232375787 : Unit := ()
def lawEnd.tw15168389564065441771 : Unit := ()
def lawEnd.tw16891564434284723372 : Unit := ()
def lawEnd.tw17626170835394868556 : Unit := ()
def lawEnd.tw791630960799993260 : Unit := ()
def lawEnd.tw15002599775562890668 : Unit := ()
def lawEnd.tw11901941329242437068 : Unit := ()
def lawEnd.tw10284794045513887180 : Unit := ()
def lawEnd.tw3857242764988896876 : Unit := ()
def lawEnd.tw11754653807592713868 : Unit := ()
def lawEnd.tw11153811441561862828 : Unit := ()
def lawEnd.tw13869933553815699212 : Unit := ()
def lawEnd.tw5834476291873579341 : Unit := ()
def lawEnd.tw14916520351749706093 : Unit := ()
def lawEnd.tw14272077679857264493 : Unit := ()
def lawEnd.tw6863821633597875117 : Unit := ()
def lawEnd.tw10952233505802199981 : Unit := ()
def lawEnd.tw10654042149976470990 : Unit := ()
def lawEnd.tw535032207335712302 : Unit := ()
def lawEnd.tw12244985766714833614 : Unit := ()
def lawEnd.tw10211036251684347886 : Unit := ()
def lawEnd.tw1703963862787546127 : Unit := ()
def lawEnd.tw7322508309841662415 : Unit := ()
def lawEnd.tw168309524880897935 : Unit := ()
def lawEnd.tw17322586734538900592 : Unit := ()
def lawEnd.tw8149484069362034832 : Unit := ()
def lawEnd.tw15788216639089832144 : Unit := ()
def lawEnd.tw10409869263510009232 : Unit := ()
def lawEnd.tw17603132194891478704 : Unit := ()
def lawEnd.tw14437000154278488816 : Unit := ()
def lawEnd.tw12360413795572423632 : Unit := ()
def lawEnd.tw6814743545966093264 : Unit := ()
def lawEnd.tw15585571291900879856 : Unit := ()
def lawEnd.tw14976770574827878449 : Unit := ()
def lawEnd.tw2226648977826271345 : Unit := ()
def lawEnd.tw15964479473596503249 : Unit := ()
def lawEnd.tw16379918921645964785 : Unit := ()
def lawEnd.tw11558050665493335569 : Unit := ()
def lawEnd.tw4840216092476694129 : Unit := ()
def lawEnd.tw9541774202495988401 : Unit := ()
def lawEnd.tw4318110053196629777 : Unit := ()
def lawEnd.tw125424991304509458 : Unit := ()
def lawEnd.tw13425895793305163954 : Unit := ()
def lawEnd.tw11708529906337410386 : Unit := ()
def lawEnd.tw9912962580359464338 : Unit := ()
def lawEnd.tw1528343266455292562 : Unit := ()
def lawEnd.tw10273471535697015474 : Unit := ()
def lawEnd.tw13890864254624744274 : Unit := ()
def lawEnd.tw12164173699512606803 : Unit := ()
def lawEnd.tw2569479270794153363 : Unit := ()
def lawEnd.tw15250869410818660947 : Unit := ()
def lawEnd.tw5471820415821228659 : Unit := ()
def lawEnd.tw18431335339774971635 : Unit := ()
def lawEnd.tw3328775570846775091 : Unit := ()
def lawEnd.tw13511127843036103539 : Unit := ()
def lawEnd.tw7818560022640650131 : Unit := ()
def lawEnd.tw9789374860491459571 : Unit := ()
def lawEnd.tw9555496647016482803 : Unit := ()
def lawEnd.tw11918099403577854036 : Unit := ()
def lawEnd.tw15032358204693627284 : Unit := ()
def lawEnd.tw2537815707409764820 : Unit := ()
def lawEnd.tw8821901412039059156 : Unit := ()
def lawEnd.tw6518013308705499892 : Unit := ()
def lawEnd.tw6405585371789384532 : Unit := ()
def lawEnd.tw7566093201236986933 : Unit := ()
def lawEnd.tw16562024672500664629 : Unit := ()
def lawEnd.tw3583678811141708181 : Unit := ()
def lawEnd.tw2462549495723319893 : Unit := ()
def lawEnd.tw7164404956367807093 : Unit := ()
def lawEnd.tw4857698682488729237 : Unit := ()
def lawEnd.tw6271392364236769045 : Unit := ()
def lawEnd.tw6937643243617819541 : Unit := ()
def lawEnd.tw3365988924235916245 : Unit := ()
def lawEnd.tw9443753819612750390 : Unit := ()
def lawEnd.tw9674207276774321750 : Unit := ()
def lawEnd.tw17849145938328706071 : Unit := ()
def lawEnd.tw5302022369556489239 : Unit := ()
def lawEnd.tw4412103651921044887 : Unit := ()
def lawEnd.tw16995744248539957687 : Unit := ()
def lawEnd.tw4548325388771838583 : Unit := ()
def lawEnd.tw9451885519114772215 : Unit := ()
def lawEnd.tw12480318946287438615 : Unit := ()
def lawEnd.tw4162403981031594072 : Unit := ()
def lawEnd.tw7952305193781263448 : Unit := ()
def lawEnd.tw17123151530022029624 : Unit := ()
def lawEnd.tw11208067030263167384 : Unit := ()
def lawEnd.tw1009488607046369784 : Unit := ()
def lawEnd.tw5351856376822828249 : Unit := ()
def lawEnd.tw4248250149247326585 : Unit := ()
def lawEnd.tw8415991088628947353 : Unit := ()
def lawEnd.tw6133791022589615577 : Unit := ()
def lawEnd.tw1275365609868427769 : Unit := ()
def lawEnd.tw10962406919174433721 : Unit := ()
def lawEnd.tw10504678727070204889 : Unit := ()
def lawEnd.tw15936283072620724410 : Unit := ()
def lawEnd.tw4156687945251321082 : Unit := ()
def lawEnd.tw6185805985178928666 : Unit := ()
def lawEnd.tw13207004136686065274 : Unit := ()
def lawEnd.tw7275580721626313370 : Unit := ()
def lawEnd.tw5605337138495973050 : Unit := ()
def lawEnd.tw722672665724886874 : Unit := ()
def lawEnd.tw10468779632470541371 : Unit := ()
def lawEnd.tw1175478136769062075 : Unit := ()
def lawEnd.tw16349898043894790427 : Unit := ()
def lawEnd.tw5539560394082316603 : Unit := ()
def lawEnd.tw15658931594317451643 : Unit := ()
def lawEnd.tw900471178646668699 : Unit := ()
def lawEnd.tw9249179387318087163 : Unit := ()
def lawEnd.tw14693469046709638651 : Unit := ()
def lawEnd.tw8342381063747947099 : Unit := ()
def lawEnd.tw15313295470254214875 : Unit := ()
def lawEnd.tw2388228883731283004 : Unit := ()
def lawEnd.tw9583832982151049308 : Unit := ()
def lawEnd.tw15987607463006721148 : Unit := ()
def lawEnd.tw12941984446689719452 : Unit := ()
def lawEnd.tw5647632437064343964 : Unit := ()
def lawEnd.tw12414677412299667068 : Unit := ()
def lawEnd.tw7858323841765218972 : Unit := ()
def lawEnd.tw17023137958821918396 : Unit := ()
def lawEnd.tw4397128123439931100 : Unit := ()
def lawEnd.tw15581932961640248060 : Unit := ()
def lawEnd.tw4928876038719991837 : Unit := ()
def lawEnd.tw15190824786867520637 : Unit := ()
def lawEnd.tw2518976887262386557 : Unit := ()
def lawEnd.tw13322794617707642301 : Unit := ()
def lawEnd.tw14205753683226986013 : Unit := ()
def lawEnd.tw13210504993621952125 : Unit := ()
def lawEnd.tw4315449334950452893 : Unit := ()
def lawEnd.tw14320481902353457053 : Unit := ()
def lawEnd.tw8804548225604275133 : Unit := ()
def lawEnd.tw4239887355910836254 : Unit := ()
def lawEnd.tw11783332083806279838 : Unit := ()
def lawEnd.tw6586265217276036542 : Unit := ()
def lawEnd.tw9881801384250170846 : Unit := ()
def lawEnd.tw1231692751607888446 : Unit := ()
def lawEnd.tw10367723968520730462 : Unit := ()
def lawEnd.tw6559940626155524127 : Unit := ()
def lawEnd.tw15393770903550951615 : Unit := ()
def lawEnd.tw17593514455058559199 : Unit := ()
def lawEnd.tw13349087430641816895 : Unit := ()
def lawEnd.tw11017761171823680831 : Unit := ()
def lawEnd.tw8111592453419889119 : Unit := ()
def lawEnd.tw2366067656133183 : Unit := ()
def lawEnd.tw7073850611267952223 : Unit := ()
def lawEnd.tw5780401341672293311 : Unit := ()
def lawEnd.tw5639633426102497725 : Unit := ()
set_option Elab.async true in
theorem lawEnd : PySem.Challenge.rw_pe0263_01.Holds := by
  w_on; o_law; k_head; (case hw => w_witness2)
  exact law_walk
end Mine
end
theorem PySem.Challenge.cw_pe0263_01_holds : PySem.Challenge.rw_pe0263_01.Holds :=
  Mine.lawEnd
