import PyProof.Rows.All
import Wide.All
import OpenK.AllK
import Wide.FinOn
import Flt.RightMore
import Flt.Calls
import Flt.RightSqrt
import PyProof.EqAt
import KE.KLcPair
import PyProof.ZipIter
import KE.KLcTest
import PySem.Challenge.RW_pe0263_01
set_option linter.all false
set_option Elab.async false
set_option maxRecDepth 100000
set_option maxHeartbeats 8000000
noncomputable section -- Nez
namespace Mine.Internal
theorem nzA1 {p q : Prop} (h : p ∧ q) : p := h.1
theorem nzA2 {a1 p q : Prop} (h : a1 ∧ p ∧ q) : p := h.2.1
theorem nzZ2 {a1 p : Prop} (h : a1 ∧ p) : p := h.2
theorem nzA3 {a1 a2 p q : Prop} (h : a1 ∧ a2 ∧ p ∧ q) : p := h.2.2.1
theorem nzZ3 {a1 a2 p : Prop} (h : a1 ∧ a2 ∧ p) : p := h.2.2
theorem nzA4 {a1 a2 a3 p q : Prop} (h : a1 ∧ a2 ∧ a3 ∧ p ∧ q) : p := h.2.2.2.1
theorem nzZ4 {a1 a2 a3 p : Prop} (h : a1 ∧ a2 ∧ a3 ∧ p) : p := h.2.2.2
theorem nzA5 {a1 a2 a3 a4 p q : Prop} (h : a1 ∧ a2 ∧ a3 ∧ a4 ∧ p ∧ q) : p := h.2.2.2.2.1
theorem nzZ5 {a1 a2 a3 a4 p : Prop} (h : a1 ∧ a2 ∧ a3 ∧ a4 ∧ p) : p := h.2.2.2.2
theorem nzA6 {a1 a2 a3 a4 a5 p q : Prop} (h : a1 ∧ a2 ∧ a3 ∧ a4 ∧ a5 ∧ p ∧ q) : p := h.2.2.2.2.2.1
theorem nzZ6 {a1 a2 a3 a4 a5 p : Prop} (h : a1 ∧ a2 ∧ a3 ∧ a4 ∧ a5 ∧ p) : p := h.2.2.2.2.2
theorem nzA7 {a1 a2 a3 a4 a5 a6 p q : Prop} (h : a1 ∧ a2 ∧ a3 ∧ a4 ∧ a5 ∧ a6 ∧ p ∧ q) : p := h.2.2.2.2.2.2.1
theorem nzZ7 {a1 a2 a3 a4 a5 a6 p : Prop} (h : a1 ∧ a2 ∧ a3 ∧ a4 ∧ a5 ∧ a6 ∧ p) : p := h.2.2.2.2.2.2
theorem nzA8 {a1 a2 a3 a4 a5 a6 a7 p q : Prop} (h : a1 ∧ a2 ∧ a3 ∧ a4 ∧ a5 ∧ a6 ∧ a7 ∧ p ∧ q) : p := h.2.2.2.2.2.2.2.1
theorem nzZ8 {a1 a2 a3 a4 a5 a6 a7 p : Prop} (h : a1 ∧ a2 ∧ a3 ∧ a4 ∧ a5 ∧ a6 ∧ a7 ∧ p) : p := h.2.2.2.2.2.2.2
theorem nzA9 {a1 a2 a3 a4 a5 a6 a7 a8 p q : Prop} (h : a1 ∧ a2 ∧ a3 ∧ a4 ∧ a5 ∧ a6 ∧ a7 ∧ a8 ∧ p ∧ q) : p := h.2.2.2.2.2.2.2.2.1
theorem nzZ9 {a1 a2 a3 a4 a5 a6 a7 a8 p : Prop} (h : a1 ∧ a2 ∧ a3 ∧ a4 ∧ a5 ∧ a6 ∧ a7 ∧ a8 ∧ p) : p := h.2.2.2.2.2.2.2.2
theorem nzA10 {a1 a2 a3 a4 a5 a6 a7 a8 a9 p q : Prop} (h : a1 ∧ a2 ∧ a3 ∧ a4 ∧ a5 ∧ a6 ∧ a7 ∧ a8 ∧ a9 ∧ p ∧ q) : p := h.2.2.2.2.2.2.2.2.2.1
theorem nzZ10 {a1 a2 a3 a4 a5 a6 a7 a8 a9 p : Prop} (h : a1 ∧ a2 ∧ a3 ∧ a4 ∧ a5 ∧ a6 ∧ a7 ∧ a8 ∧ a9 ∧ p) : p := h.2.2.2.2.2.2.2.2.2
theorem nzA11 {a1 a2 a3 a4 a5 a6 a7 a8 a9 a10 p q : Prop} (h : a1 ∧ a2 ∧ a3 ∧ a4 ∧ a5 ∧ a6 ∧ a7 ∧ a8 ∧ a9 ∧ a10 ∧ p ∧ q) : p := h.2.2.2.2.2.2.2.2.2.2.1
theorem nzZ11 {a1 a2 a3 a4 a5 a6 a7 a8 a9 a10 p : Prop} (h : a1 ∧ a2 ∧ a3 ∧ a4 ∧ a5 ∧ a6 ∧ a7 ∧ a8 ∧ a9 ∧ a10 ∧ p) : p := h.2.2.2.2.2.2.2.2.2.2
theorem nzA12 {a1 a2 a3 a4 a5 a6 a7 a8 a9 a10 a11 p q : Prop} (h : a1 ∧ a2 ∧ a3 ∧ a4 ∧ a5 ∧ a6 ∧ a7 ∧ a8 ∧ a9 ∧ a10 ∧ a11 ∧ p ∧ q) : p := h.2.2.2.2.2.2.2.2.2.2.2.1
theorem nzZ12 {a1 a2 a3 a4 a5 a6 a7 a8 a9 a10 a11 p : Prop} (h : a1 ∧ a2 ∧ a3 ∧ a4 ∧ a5 ∧ a6 ∧ a7 ∧ a8 ∧ a9 ∧ a10 ∧ a11 ∧ p) : p := h.2.2.2.2.2.2.2.2.2.2.2
theorem nzA13 {a1 a2 a3 a4 a5 a6 a7 a8 a9 a10 a11 a12 p q : Prop} (h : a1 ∧ a2 ∧ a3 ∧ a4 ∧ a5 ∧ a6 ∧ a7 ∧ a8 ∧ a9 ∧ a10 ∧ a11 ∧ a12 ∧ p ∧ q) : p := h.2.2.2.2.2.2.2.2.2.2.2.2.1
theorem nzZ13 {a1 a2 a3 a4 a5 a6 a7 a8 a9 a10 a11 a12 p : Prop} (h : a1 ∧ a2 ∧ a3 ∧ a4 ∧ a5 ∧ a6 ∧ a7 ∧ a8 ∧ a9 ∧ a10 ∧ a11 ∧ a12 ∧ p) : p := h.2.2.2.2.2.2.2.2.2.2.2.2
theorem nzA14 {a1 a2 a3 a4 a5 a6 a7 a8 a9 a10 a11 a12 a13 p q : Prop} (h : a1 ∧ a2 ∧ a3 ∧ a4 ∧ a5 ∧ a6 ∧ a7 ∧ a8 ∧ a9 ∧ a10 ∧ a11 ∧ a12 ∧ a13 ∧ p ∧ q) : p := h.2.2.2.2.2.2.2.2.2.2.2.2.2.1
theorem nzZ14 {a1 a2 a3 a4 a5 a6 a7 a8 a9 a10 a11 a12 a13 p : Prop} (h : a1 ∧ a2 ∧ a3 ∧ a4 ∧ a5 ∧ a6 ∧ a7 ∧ a8 ∧ a9 ∧ a10 ∧ a11 ∧ a12 ∧ a13 ∧ p) : p := h.2.2.2.2.2.2.2.2.2.2.2.2.2
theorem nzA15 {a1 a2 a3 a4 a5 a6 a7 a8 a9 a10 a11 a12 a13 a14 p q : Prop} (h : a1 ∧ a2 ∧ a3 ∧ a4 ∧ a5 ∧ a6 ∧ a7 ∧ a8 ∧ a9 ∧ a10 ∧ a11 ∧ a12 ∧ a13 ∧ a14 ∧ p ∧ q) : p := h.2.2.2.2.2.2.2.2.2.2.2.2.2.2.1
theorem nzZ15 {a1 a2 a3 a4 a5 a6 a7 a8 a9 a10 a11 a12 a13 a14 p : Prop} (h : a1 ∧ a2 ∧ a3 ∧ a4 ∧ a5 ∧ a6 ∧ a7 ∧ a8 ∧ a9 ∧ a10 ∧ a11 ∧ a12 ∧ a13 ∧ a14 ∧ p) : p := h.2.2.2.2.2.2.2.2.2.2.2.2.2.2
theorem nzA16 {a1 a2 a3 a4 a5 a6 a7 a8 a9 a10 a11 a12 a13 a14 a15 p q : Prop} (h : a1 ∧ a2 ∧ a3 ∧ a4 ∧ a5 ∧ a6 ∧ a7 ∧ a8 ∧ a9 ∧ a10 ∧ a11 ∧ a12 ∧ a13 ∧ a14 ∧ a15 ∧ p ∧ q) : p := h.2.2.2.2.2.2.2.2.2.2.2.2.2.2.2.1
theorem nzZ16 {a1 a2 a3 a4 a5 a6 a7 a8 a9 a10 a11 a12 a13 a14 a15 p : Prop} (h : a1 ∧ a2 ∧ a3 ∧ a4 ∧ a5 ∧ a6 ∧ a7 ∧ a8 ∧ a9 ∧ a10 ∧ a11 ∧ a12 ∧ a13 ∧ a14 ∧ a15 ∧ p) : p := h.2.2.2.2.2.2.2.2.2.2.2.2.2.2.2
theorem nzSS {a b : Nat} (h : a ≠ b) : a + 1 ≠ b + 1 := fun e => h (Nat.succ.inj e)
theorem nzS0 {a b : Nat} (h : a ≤ b) : b + 1 ≠ a := Nat.ne_of_gt (Nat.lt_succ_of_le h)
theorem nz0S {a b : Nat} (h : a ≤ b) : a ≠ b + 1 := Nat.ne_of_lt (Nat.lt_succ_of_le h)
theorem nzLS {a b : Nat} (h : a ≤ b) : a ≤ b + 1 := Nat.le_succ_of_le h
theorem nzLT {a b : Nat} (h : a < b) : a < b + 1 := Nat.lt_succ_of_lt h
open PySem PySem.W in
noncomputable def AllLtC (d : Addr) : Addr × Obj → List (Addr × Obj) → Prop
  | p, [] => @LT.lt Nat _ p.1 d
  | p, q :: r => @LT.lt Nat _ p.1 d ∧ AllLtC d q r
open PySem PySem.W in
noncomputable def AllLt1 (d : Addr) : List (Addr × Obj) → Prop
  | [] => True
  | p :: r => AllLtC d p r
open PySem PySem.W in
theorem allLtC {d : Addr} : ∀ {l : List (Addr × Obj)} {p : Addr × Obj}, (∀ q ∈ p :: l, q.1 < d) → AllLtC d p l
  | [], _, h => h _ (.head _)
  | _ :: _, _, h => ⟨h _ (.head _), allLtC fun q hq => h q (.tail _ hq)⟩
open PySem PySem.W in
theorem allLt1 {d : Addr} : ∀ {l : List (Addr × Obj)}, (∀ p ∈ l, p.1 < d) → AllLt1 d l
  | [], _ => trivial
  | _ :: _, h => allLtC h
end Mine.Internal
namespace Mine.Internal
section
variable {a b c d k lim m j : Nat} {x y z w : Int}
theorem u0 (h : a + k < lim) : a < lim := Nat.lt_of_le_of_lt (Nat.le_add_right _ _) h
theorem u1 (h : a + k < lim) (e : b ≤ k) : a + b < lim := Nat.lt_of_le_of_lt (Nat.add_le_add_left e _) h
theorem u2 (h : a + k < lim) (e : b + c ≤ k) : a + b + c < lim := Nat.lt_of_le_of_lt (Nat.add_assoc a b c ▸ Nat.add_le_add_left e _) h
theorem u3 (h : a + k < lim) (e : b + c + d ≤ k) : a + b + c + d < lim := by omega
theorem leC (h : m ≤ k) (e : k ≤ c) : m ≤ c := Nat.le_trans h e
theorem ltC (h : m ≤ k) (e : k < c) : m < c := Nat.lt_of_le_of_lt h e
theorem ltD (h : m < k) (e : k ≤ c) : m < c := Nat.lt_of_lt_of_le h e
theorem leD (h : m < k) (e : k ≤ c) : m ≤ c := Nat.le_of_lt (Nat.lt_of_lt_of_le h e)
theorem leE (h : m = k) (h2 : k ≤ j) (e : j ≤ c) : m ≤ c := h ▸ Nat.le_trans h2 e
theorem ltE (h : m = k) (h2 : k ≤ j) (e : j < c) : m < c := h ▸ Nat.lt_of_le_of_lt h2 e
theorem iltC (h : y < z) (e : z ≤ w) : y < w := Int.lt_of_lt_of_le h e
theorem ileC (h : y ≤ z) (e : z ≤ w) : y ≤ w := Int.le_trans h e
theorem iltD (h : y ≤ z) (e : z < w) : y < w := Int.lt_of_le_of_lt h e
theorem ileD (h : y < z) (e : z ≤ w) : y ≤ w := Int.le_of_lt (Int.lt_of_lt_of_le h e)
theorem igtC (h : z ≤ y) (e : w < z) : w < y := Int.lt_of_lt_of_le e h
theorem igeC (h : z ≤ y) (e : w ≤ z) : w ≤ y := Int.le_trans e h
theorem igtP (h : z < y) (e : w ≤ z) : w < y := Int.lt_of_le_of_lt e h
theorem igeP (h : z < y) (e : w ≤ z) : w ≤ y := Int.le_of_lt (Int.lt_of_le_of_lt e h)
theorem cgtC (e : w < 0) : w < (m : Int) := Int.lt_of_lt_of_le e (Int.natCast_nonneg _)
theorem cgeC (e : w ≤ 0) : w ≤ (m : Int) := Int.le_trans e (Int.natCast_nonneg _)
theorem cltC (h : m ≤ k) (e : (k : Int) < w) : (m : Int) < w := Int.lt_of_le_of_lt (Int.ofNat_le.mpr h) e
theorem cleC (h : m ≤ k) (e : (k : Int) ≤ w) : (m : Int) ≤ w := Int.le_trans (Int.ofNat_le.mpr h) e
theorem cltE (h : m = k) (h2 : k ≤ j) (e : (j : Int) < w) : (m : Int) < w := cltC (h ▸ h2) e
theorem cltF (h : m ≤ k) (h2 : k ≤ j) (e : (j : Int) < w) : (m : Int) < w := cltC (Nat.le_trans h h2) e
theorem cleF (h : m ≤ k) (h2 : k ≤ j) (e : (j : Int) ≤ w) : (m : Int) ≤ w := cleC (Nat.le_trans h h2) e
theorem leF (h : m ≤ k) (h2 : k ≤ j) (e : j ≤ c) : m ≤ c := Nat.le_trans h (Nat.le_trans h2 e)
end
theorem iteD1 {c : Prop} [Decidable c] {P Q : Prop} (h : c) (k : P) : if decide c = true then P else Q := by rw [if_pos (decide_eq_true h)]; exact k
theorem iteD0 {c : Prop} [Decidable c] {P Q : Prop} (h : ¬ c) (k : Q) : if decide c = true then P else Q := by rw [if_neg (fun e => h (of_decide_eq_true e))]; exact k
end Mine.Internal
end
noncomputable section -- Sto
open PySem PySem.W PySem.Calls PyProof.Rows
namespace Mine.Internal
theorem storeY_L {M : Model} {A : Around} {E : Value → Shared → Prop} {s : Shared} {Q : Unit → Shared → Prop} {h₀ : Heap} {m : Str → Option Value} {news : List (Addr × Obj)} {cn : Str} {cs : Scope} {L a : Addr} {ccd : Value} {cl : List (Str × Addr)} {x : Str} {v : Value} (F : Fr h₀ L s.heap m) (N : News h₀ L s.heap news)
    (h : ∀ h', let m' := (fun y => if y = x then some v else m y); Fr h₀ L h' m' → News h₀ L h' news → Q () ⟨h', s.gens, s.drawn, s.toks + 1, s.os⟩)
    (hk : cs.kind = .function := by rfl) (hx : (envX cn cs L a ccd cl).kindOf x = some .local := by rfl) : wpAny M A (storeName (envX cn cs L a ccd cl) x v) Q E s :=
  storeX_L F N h hk hx
theorem letAE {M : Model} {A : Around} {env : Env} {body : List Stmt} {Q : Flow → Shared → Prop} {E : Value → Shared → Prop} {s : Shared} (h : let env' := env; wpAny M A (execs body env') Q E s) : wpAny M A (execs body env) Q E s := h
theorem genT {M : Model} {A : Around} {body : List Stmt} {env : Env} {Q : Flow → Shared → Prop} {E : Value → Shared → Prop} {h : Heap} {g : Array GenState} {d : Drawn} {o : OsState} {t : Nat} (k : ∀ t', wpAny M A (execs body env) Q E ⟨h, g, d, t', o⟩) : wpAny M A (execs body env) Q E ⟨h, g, d, t, o⟩ := k t
theorem letF {h₀ h : Heap} {L : Addr} {m : Str → Option Value} {P : Prop} (F : Fr h₀ L h m) (k : let m' := m; Fr h₀ L h m' → P) : P := k F
theorem nameGoal {P : Prop} (h : let G := P; G) : P := h
end Mine.Internal
open PySem PySem.W
namespace Mine.Internal
noncomputable def skdN {α : Type} (d : α) (P : α → Prop) (n : Nat) : α := open Classical in if n = 0 then (if h : ∃ z, ¬ P z then Classical.choose h else d) else skdN d P (n - 1)
termination_by n
decreasing_by omega
noncomputable def skd {α : Type} (d : α) (P : α → Prop) : α := skdN d P 0
noncomputable abbrev skz {α : Type} (P : α → Prop) (d : α) : α := skd d P
theorem skall {α : Type} (d : α) (P : α → Prop) (h : P (skd d P)) (x : α) : P x := by
  by_cases q : ∃ z, ¬ P z
  · rw [skd, skdN, if_pos rfl, dif_pos q] at h; exact absurd h (Classical.choose_spec q)
  · exact Classical.byContradiction fun n => q ⟨x, n⟩
noncomputable def dW : World := ⟨fun _ _ => 0, { strHash := fun _ => 0, shareClass := fun _ => 0, mergeTok := fun t => t, idOf := fun _ => 0, idOfShared := fun _ _ => 0, followText := fun _ => false, idOfImm := fun _ => 0 }⟩
noncomputable def dO : Obj := default
noncomputable def iW : Inhabited World := ⟨dW⟩
noncomputable def iA : Inhabited Around := ⟨{}⟩
noncomputable def iS : Inhabited Shared := ⟨{}⟩
noncomputable def iX : Inhabited ExcName := ⟨.builtin ""⟩
noncomputable def dX : ExcName := .builtin ""
set_option genSizeOf false in
set_option genInjectivity false in
structure Sk where
  n : Nat → Nat
  h : Nat → Heap
  a : Nat → Addr
  o : Nat → Obj
  t : Nat → Tok
  m : Nat → (Str → Option Value)
  i : Nat → Int
  q : Nat → (Value → Shared → Prop)
  v : Nat → Value
  lv : Nat → List Value
  s : Nat → Shared
  w : Nat → World
  av : Nat → Array Value
  ao : Nat → List (Addr × Obj)
  x : Nat → Str
  u : Nat → UInt64
  sc : Nat → Scope
  sa : Nat → List (Str × Addr)
  oc : Nat → Option (List Code)
  le : Nat → List Env
  em : Nat → (ExcName → Option Value)
  ov : Nat → Option Value
  la : Nat → List Addr
  p : Nat → Pos
  li : Nat → List Int
  pr : Nat → Program
  ar : Nat → Around
noncomputable def dS : Sk := ⟨fun _ => default, fun _ => default, fun _ => default, fun _ => dO, fun _ => default, fun _ => default, fun _ => default, fun _ => fun _ _ => True, fun _ => default, fun _ => default, fun _ => {}, fun _ => dW, fun _ => default, fun _ => default, fun _ => default, fun _ => default, fun _ => default, fun _ => default, fun _ => default, fun _ => default, fun _ => default, fun _ => default, fun _ => default, fun _ => default, fun _ => default, fun _ => default, fun _ => {}⟩
noncomputable def fc {α : Type} (x : α) (f : Nat → α) : Nat → α
  | 0 => x
  | n + 1 => f n
noncomputable def sk_n (x : Nat) (z : Sk) : Sk := { z with n := fc x z.n }
noncomputable def sk_h (x : Heap) (z : Sk) : Sk := { z with h := fc x z.h }
noncomputable def sk_a (x : Addr) (z : Sk) : Sk := { z with a := fc x z.a }
noncomputable def sk_o (x : Obj) (z : Sk) : Sk := { z with o := fc x z.o }
noncomputable def sk_t (x : Tok) (z : Sk) : Sk := { z with t := fc x z.t }
noncomputable def sk_m (x : Str → Option Value) (z : Sk) : Sk := { z with m := fc x z.m }
noncomputable def sk_i (x : Int) (z : Sk) : Sk := { z with i := fc x z.i }
noncomputable def sk_q (x : Value → Shared → Prop) (z : Sk) : Sk := { z with q := fc x z.q }
noncomputable def sk_v (x : Value) (z : Sk) : Sk := { z with v := fc x z.v }
noncomputable def sk_lv (x : List Value) (z : Sk) : Sk := { z with lv := fc x z.lv }
noncomputable def sk_s (x : Shared) (z : Sk) : Sk := { z with s := fc x z.s }
noncomputable def sk_w (x : World) (z : Sk) : Sk := { z with w := fc x z.w }
noncomputable def sk_av (x : Array Value) (z : Sk) : Sk := { z with av := fc x z.av }
noncomputable def sk_ao (x : List (Addr × Obj)) (z : Sk) : Sk := { z with ao := fc x z.ao }
noncomputable def sk_x (x : Str) (z : Sk) : Sk := { z with x := fc x z.x }
noncomputable def sk_u (x : UInt64) (z : Sk) : Sk := { z with u := fc x z.u }
noncomputable def sk_sc (x : Scope) (z : Sk) : Sk := { z with sc := fc x z.sc }
noncomputable def sk_sa (x : List (Str × Addr)) (z : Sk) : Sk := { z with sa := fc x z.sa }
noncomputable def sk_oc (x : Option (List Code)) (z : Sk) : Sk := { z with oc := fc x z.oc }
noncomputable def sk_le (x : List Env) (z : Sk) : Sk := { z with le := fc x z.le }
noncomputable def sk_em (x : ExcName → Option Value) (z : Sk) : Sk := { z with em := fc x z.em }
noncomputable def sk_ov (x : Option Value) (z : Sk) : Sk := { z with ov := fc x z.ov }
noncomputable def sk_la (x : List Addr) (z : Sk) : Sk := { z with la := fc x z.la }
noncomputable def sk_p (x : Pos) (z : Sk) : Sk := { z with p := fc x z.p }
noncomputable def sk_li (x : List Int) (z : Sk) : Sk := { z with li := fc x z.li }
noncomputable def sk_pr (x : Program) (z : Sk) : Sk := { z with pr := fc x z.pr }
noncomputable def sk_ar (x : Around) (z : Sk) : Sk := { z with ar := fc x z.ar }
noncomputable def skv (P : Sk → Prop) : Sk := skd dS P
theorem skva (P : Sk → Prop) (h : P (skv P)) (x : Sk) : P x := skall dS P h x
set_option maxRecDepth 100000
noncomputable def sq8 {A0 A1 A2 A3 A4 A5 A6 A7 : Type} (d : A0 × A1 × A2 × A3 × A4 × A5 × A6 × A7) (P : A0 → A1 → A2 → A3 → A4 → A5 → A6 → A7 → Prop) : A0 × A1 × A2 × A3 × A4 × A5 × A6 × A7 := skd d (fun z => P z.1 z.2.1 z.2.2.1 z.2.2.2.1 z.2.2.2.2.1 z.2.2.2.2.2.1 z.2.2.2.2.2.2.1 z.2.2.2.2.2.2.2)
theorem sk8 {A0 A1 A2 A3 A4 A5 A6 A7 : Type} (d : A0 × A1 × A2 × A3 × A4 × A5 × A6 × A7) {P : A0 → A1 → A2 → A3 → A4 → A5 → A6 → A7 → Prop} (h : P (sq8 d P).1 (sq8 d P).2.1 (sq8 d P).2.2.1 (sq8 d P).2.2.2.1 (sq8 d P).2.2.2.2.1 (sq8 d P).2.2.2.2.2.1 (sq8 d P).2.2.2.2.2.2.1 (sq8 d P).2.2.2.2.2.2.2) : ∀ x0 x1 x2 x3 x4 x5 x6 x7, P x0 x1 x2 x3 x4 x5 x6 x7 := fun x0 x1 x2 x3 x4 x5 x6 x7 => skall d (fun z => P z.1 z.2.1 z.2.2.1 z.2.2.2.1 z.2.2.2.2.1 z.2.2.2.2.2.1 z.2.2.2.2.2.2.1 z.2.2.2.2.2.2.2) h (x0, x1, x2, x3, x4, x5, x6, x7)
noncomputable def sq25 {A0 A1 A2 A3 A4 A5 A6 A7 A8 A9 A10 A11 A12 A13 A14 A15 A16 A17 A18 A19 A20 A21 A22 A23 A24 : Type} (d : A0 × A1 × A2 × A3 × A4 × A5 × A6 × A7 × A8 × A9 × A10 × A11 × A12 × A13 × A14 × A15 × A16 × A17 × A18 × A19 × A20 × A21 × A22 × A23 × A24) (P : A0 → A1 → A2 → A3 → A4 → A5 → A6 → A7 → A8 → A9 → A10 → A11 → A12 → A13 → A14 → A15 → A16 → A17 → A18 → A19 → A20 → A21 → A22 → A23 → A24 → Prop) : A0 × A1 × A2 × A3 × A4 × A5 × A6 × A7 × A8 × A9 × A10 × A11 × A12 × A13 × A14 × A15 × A16 × A17 × A18 × A19 × A20 × A21 × A22 × A23 × A24 := skd d (fun z => P z.1 z.2.1 z.2.2.1 z.2.2.2.1 z.2.2.2.2.1 z.2.2.2.2.2.1 z.2.2.2.2.2.2.1 z.2.2.2.2.2.2.2.1 z.2.2.2.2.2.2.2.2.1 z.2.2.2.2.2.2.2.2.2.1 z.2.2.2.2.2.2.2.2.2.2.1 z.2.2.2.2.2.2.2.2.2.2.2.1 z.2.2.2.2.2.2.2.2.2.2.2.2.1 z.2.2.2.2.2.2.2.2.2.2.2.2.2.1 z.2.2.2.2.2.2.2.2.2.2.2.2.2.2.1 z.2.2.2.2.2.2.2.2.2.2.2.2.2.2.2.1 z.2.2.2.2.2.2.2.2.2.2.2.2.2.2.2.2.1 z.2.2.2.2.2.2.2.2.2.2.2.2.2.2.2.2.2.1 z.2.2.2.2.2.2.2.2.2.2.2.2.2.2.2.2.2.2.1 z.2.2.2.2.2.2.2.2.2.2.2.2.2.2.2.2.2.2.2.1 z.2.2.2.2.2.2.2.2.2.2.2.2.2.2.2.2.2.2.2.2.1 z.2.2.2.2.2.2.2.2.2.2.2.2.2.2.2.2.2.2.2.2.2.1 z.2.2.2.2.2.2.2.2.2.2.2.2.2.2.2.2.2.2.2.2.2.2.1 z.2.2.2.2.2.2.2.2.2.2.2.2.2.2.2.2.2.2.2.2.2.2.2.1 z.2.2.2.2.2.2.2.2.2.2.2.2.2.2.2.2.2.2.2.2.2.2.2.2)
theorem sk25 {A0 A1 A2 A3 A4 A5 A6 A7 A8 A9 A10 A11 A12 A13 A14 A15 A16 A17 A18 A19 A20 A21 A22 A23 A24 : Type} (d : A0 × A1 × A2 × A3 × A4 × A5 × A6 × A7 × A8 × A9 × A10 × A11 × A12 × A13 × A14 × A15 × A16 × A17 × A18 × A19 × A20 × A21 × A22 × A23 × A24) {P : A0 → A1 → A2 → A3 → A4 → A5 → A6 → A7 → A8 → A9 → A10 → A11 → A12 → A13 → A14 → A15 → A16 → A17 → A18 → A19 → A20 → A21 → A22 → A23 → A24 → Prop} (h : P (sq25 d P).1 (sq25 d P).2.1 (sq25 d P).2.2.1 (sq25 d P).2.2.2.1 (sq25 d P).2.2.2.2.1 (sq25 d P).2.2.2.2.2.1 (sq25 d P).2.2.2.2.2.2.1 (sq25 d P).2.2.2.2.2.2.2.1 (sq25 d P).2.2.2.2.2.2.2.2.1 (sq25 d P).2.2.2.2.2.2.2.2.2.1 (sq25 d P).2.2.2.2.2.2.2.2.2.2.1 (sq25 d P).2.2.2.2.2.2.2.2.2.2.2.1 (sq25 d P).2.2.2.2.2.2.2.2.2.2.2.2.1 (sq25 d P).2.2.2.2.2.2.2.2.2.2.2.2.2.1 (sq25 d P).2.2.2.2.2.2.2.2.2.2.2.2.2.2.1 (sq25 d P).2.2.2.2.2.2.2.2.2.2.2.2.2.2.2.1 (sq25 d P).2.2.2.2.2.2.2.2.2.2.2.2.2.2.2.2.1 (sq25 d P).2.2.2.2.2.2.2.2.2.2.2.2.2.2.2.2.2.1 (sq25 d P).2.2.2.2.2.2.2.2.2.2.2.2.2.2.2.2.2.2.1 (sq25 d P).2.2.2.2.2.2.2.2.2.2.2.2.2.2.2.2.2.2.2.1 (sq25 d P).2.2.2.2.2.2.2.2.2.2.2.2.2.2.2.2.2.2.2.2.1 (sq25 d P).2.2.2.2.2.2.2.2.2.2.2.2.2.2.2.2.2.2.2.2.2.1 (sq25 d P).2.2.2.2.2.2.2.2.2.2.2.2.2.2.2.2.2.2.2.2.2.2.1 (sq25 d P).2.2.2.2.2.2.2.2.2.2.2.2.2.2.2.2.2.2.2.2.2.2.2.1 (sq25 d P).2.2.2.2.2.2.2.2.2.2.2.2.2.2.2.2.2.2.2.2.2.2.2.2) : ∀ x0 x1 x2 x3 x4 x5 x6 x7 x8 x9 x10 x11 x12 x13 x14 x15 x16 x17 x18 x19 x20 x21 x22 x23 x24, P x0 x1 x2 x3 x4 x5 x6 x7 x8 x9 x10 x11 x12 x13 x14 x15 x16 x17 x18 x19 x20 x21 x22 x23 x24 := fun x0 x1 x2 x3 x4 x5 x6 x7 x8 x9 x10 x11 x12 x13 x14 x15 x16 x17 x18 x19 x20 x21 x22 x23 x24 => skall d (fun z => P z.1 z.2.1 z.2.2.1 z.2.2.2.1 z.2.2.2.2.1 z.2.2.2.2.2.1 z.2.2.2.2.2.2.1 z.2.2.2.2.2.2.2.1 z.2.2.2.2.2.2.2.2.1 z.2.2.2.2.2.2.2.2.2.1 z.2.2.2.2.2.2.2.2.2.2.1 z.2.2.2.2.2.2.2.2.2.2.2.1 z.2.2.2.2.2.2.2.2.2.2.2.2.1 z.2.2.2.2.2.2.2.2.2.2.2.2.2.1 z.2.2.2.2.2.2.2.2.2.2.2.2.2.2.1 z.2.2.2.2.2.2.2.2.2.2.2.2.2.2.2.1 z.2.2.2.2.2.2.2.2.2.2.2.2.2.2.2.2.1 z.2.2.2.2.2.2.2.2.2.2.2.2.2.2.2.2.2.1 z.2.2.2.2.2.2.2.2.2.2.2.2.2.2.2.2.2.2.1 z.2.2.2.2.2.2.2.2.2.2.2.2.2.2.2.2.2.2.2.1 z.2.2.2.2.2.2.2.2.2.2.2.2.2.2.2.2.2.2.2.2.1 z.2.2.2.2.2.2.2.2.2.2.2.2.2.2.2.2.2.2.2.2.2.1 z.2.2.2.2.2.2.2.2.2.2.2.2.2.2.2.2.2.2.2.2.2.2.1 z.2.2.2.2.2.2.2.2.2.2.2.2.2.2.2.2.2.2.2.2.2.2.2.1 z.2.2.2.2.2.2.2.2.2.2.2.2.2.2.2.2.2.2.2.2.2.2.2.2) h (x0, x1, x2, x3, x4, x5, x6, x7, x8, x9, x10, x11, x12, x13, x14, x15, x16, x17, x18, x19, x20, x21, x22, x23, x24)
noncomputable def sq26 {A0 A1 A2 A3 A4 A5 A6 A7 A8 A9 A10 A11 A12 A13 A14 A15 A16 A17 A18 A19 A20 A21 A22 A23 A24 A25 : Type} (d : A0 × A1 × A2 × A3 × A4 × A5 × A6 × A7 × A8 × A9 × A10 × A11 × A12 × A13 × A14 × A15 × A16 × A17 × A18 × A19 × A20 × A21 × A22 × A23 × A24 × A25) (P : A0 → A1 → A2 → A3 → A4 → A5 → A6 → A7 → A8 → A9 → A10 → A11 → A12 → A13 → A14 → A15 → A16 → A17 → A18 → A19 → A20 → A21 → A22 → A23 → A24 → A25 → Prop) : A0 × A1 × A2 × A3 × A4 × A5 × A6 × A7 × A8 × A9 × A10 × A11 × A12 × A13 × A14 × A15 × A16 × A17 × A18 × A19 × A20 × A21 × A22 × A23 × A24 × A25 := skd d (fun z => P z.1 z.2.1 z.2.2.1 z.2.2.2.1 z.2.2.2.2.1 z.2.2.2.2.2.1 z.2.2.2.2.2.2.1 z.2.2.2.2.2.2.2.1 z.2.2.2.2.2.2.2.2.1 z.2.2.2.2.2.2.2.2.2.1 z.2.2.2.2.2.2.2.2.2.2.1 z.2.2.2.2.2.2.2.2.2.2.2.1 z.2.2.2.2.2.2.2.2.2.2.2.2.1 z.2.2.2.2.2.2.2.2.2.2.2.2.2.1 z.2.2.2.2.2.2.2.2.2.2.2.2.2.2.1 z.2.2.2.2.2.2.2.2.2.2.2.2.2.2.2.1 z.2.2.2.2.2.2.2.2.2.2.2.2.2.2.2.2.1 z.2.2.2.2.2.2.2.2.2.2.2.2.2.2.2.2.2.1 z.2.2.2.2.2.2.2.2.2.2.2.2.2.2.2.2.2.2.1 z.2.2.2.2.2.2.2.2.2.2.2.2.2.2.2.2.2.2.2.1 z.2.2.2.2.2.2.2.2.2.2.2.2.2.2.2.2.2.2.2.2.1 z.2.2.2.2.2.2.2.2.2.2.2.2.2.2.2.2.2.2.2.2.2.1 z.2.2.2.2.2.2.2.2.2.2.2.2.2.2.2.2.2.2.2.2.2.2.1 z.2.2.2.2.2.2.2.2.2.2.2.2.2.2.2.2.2.2.2.2.2.2.2.1 z.2.2.2.2.2.2.2.2.2.2.2.2.2.2.2.2.2.2.2.2.2.2.2.2.1 z.2.2.2.2.2.2.2.2.2.2.2.2.2.2.2.2.2.2.2.2.2.2.2.2.2)
theorem sk26 {A0 A1 A2 A3 A4 A5 A6 A7 A8 A9 A10 A11 A12 A13 A14 A15 A16 A17 A18 A19 A20 A21 A22 A23 A24 A25 : Type} (d : A0 × A1 × A2 × A3 × A4 × A5 × A6 × A7 × A8 × A9 × A10 × A11 × A12 × A13 × A14 × A15 × A16 × A17 × A18 × A19 × A20 × A21 × A22 × A23 × A24 × A25) {P : A0 → A1 → A2 → A3 → A4 → A5 → A6 → A7 → A8 → A9 → A10 → A11 → A12 → A13 → A14 → A15 → A16 → A17 → A18 → A19 → A20 → A21 → A22 → A23 → A24 → A25 → Prop} (h : P (sq26 d P).1 (sq26 d P).2.1 (sq26 d P).2.2.1 (sq26 d P).2.2.2.1 (sq26 d P).2.2.2.2.1 (sq26 d P).2.2.2.2.2.1 (sq26 d P).2.2.2.2.2.2.1 (sq26 d P).2.2.2.2.2.2.2.1 (sq26 d P).2.2.2.2.2.2.2.2.1 (sq26 d P).2.2.2.2.2.2.2.2.2.1 (sq26 d P).2.2.2.2.2.2.2.2.2.2.1 (sq26 d P).2.2.2.2.2.2.2.2.2.2.2.1 (sq26 d P).2.2.2.2.2.2.2.2.2.2.2.2.1 (sq26 d P).2.2.2.2.2.2.2.2.2.2.2.2.2.1 (sq26 d P).2.2.2.2.2.2.2.2.2.2.2.2.2.2.1 (sq26 d P).2.2.2.2.2.2.2.2.2.2.2.2.2.2.2.1 (sq26 d P).2.2.2.2.2.2.2.2.2.2.2.2.2.2.2.2.1 (sq26 d P).2.2.2.2.2.2.2.2.2.2.2.2.2.2.2.2.2.1 (sq26 d P).2.2.2.2.2.2.2.2.2.2.2.2.2.2.2.2.2.2.1 (sq26 d P).2.2.2.2.2.2.2.2.2.2.2.2.2.2.2.2.2.2.2.1 (sq26 d P).2.2.2.2.2.2.2.2.2.2.2.2.2.2.2.2.2.2.2.2.1 (sq26 d P).2.2.2.2.2.2.2.2.2.2.2.2.2.2.2.2.2.2.2.2.2.1 (sq26 d P).2.2.2.2.2.2.2.2.2.2.2.2.2.2.2.2.2.2.2.2.2.2.1 (sq26 d P).2.2.2.2.2.2.2.2.2.2.2.2.2.2.2.2.2.2.2.2.2.2.2.1 (sq26 d P).2.2.2.2.2.2.2.2.2.2.2.2.2.2.2.2.2.2.2.2.2.2.2.2.1 (sq26 d P).2.2.2.2.2.2.2.2.2.2.2.2.2.2.2.2.2.2.2.2.2.2.2.2.2) : ∀ x0 x1 x2 x3 x4 x5 x6 x7 x8 x9 x10 x11 x12 x13 x14 x15 x16 x17 x18 x19 x20 x21 x22 x23 x24 x25, P x0 x1 x2 x3 x4 x5 x6 x7 x8 x9 x10 x11 x12 x13 x14 x15 x16 x17 x18 x19 x20 x21 x22 x23 x24 x25 := fun x0 x1 x2 x3 x4 x5 x6 x7 x8 x9 x10 x11 x12 x13 x14 x15 x16 x17 x18 x19 x20 x21 x22 x23 x24 x25 => skall d (fun z => P z.1 z.2.1 z.2.2.1 z.2.2.2.1 z.2.2.2.2.1 z.2.2.2.2.2.1 z.2.2.2.2.2.2.1 z.2.2.2.2.2.2.2.1 z.2.2.2.2.2.2.2.2.1 z.2.2.2.2.2.2.2.2.2.1 z.2.2.2.2.2.2.2.2.2.2.1 z.2.2.2.2.2.2.2.2.2.2.2.1 z.2.2.2.2.2.2.2.2.2.2.2.2.1 z.2.2.2.2.2.2.2.2.2.2.2.2.2.1 z.2.2.2.2.2.2.2.2.2.2.2.2.2.2.1 z.2.2.2.2.2.2.2.2.2.2.2.2.2.2.2.1 z.2.2.2.2.2.2.2.2.2.2.2.2.2.2.2.2.1 z.2.2.2.2.2.2.2.2.2.2.2.2.2.2.2.2.2.1 z.2.2.2.2.2.2.2.2.2.2.2.2.2.2.2.2.2.2.1 z.2.2.2.2.2.2.2.2.2.2.2.2.2.2.2.2.2.2.2.1 z.2.2.2.2.2.2.2.2.2.2.2.2.2.2.2.2.2.2.2.2.1 z.2.2.2.2.2.2.2.2.2.2.2.2.2.2.2.2.2.2.2.2.2.1 z.2.2.2.2.2.2.2.2.2.2.2.2.2.2.2.2.2.2.2.2.2.2.1 z.2.2.2.2.2.2.2.2.2.2.2.2.2.2.2.2.2.2.2.2.2.2.2.1 z.2.2.2.2.2.2.2.2.2.2.2.2.2.2.2.2.2.2.2.2.2.2.2.2.1 z.2.2.2.2.2.2.2.2.2.2.2.2.2.2.2.2.2.2.2.2.2.2.2.2.2) h (x0, x1, x2, x3, x4, x5, x6, x7, x8, x9, x10, x11, x12, x13, x14, x15, x16, x17, x18, x19, x20, x21, x22, x23, x24, x25)
noncomputable def sq31 {A0 A1 A2 A3 A4 A5 A6 A7 A8 A9 A10 A11 A12 A13 A14 A15 A16 A17 A18 A19 A20 A21 A22 A23 A24 A25 A26 A27 A28 A29 A30 : Type} (d : A0 × A1 × A2 × A3 × A4 × A5 × A6 × A7 × A8 × A9 × A10 × A11 × A12 × A13 × A14 × A15 × A16 × A17 × A18 × A19 × A20 × A21 × A22 × A23 × A24 × A25 × A26 × A27 × A28 × A29 × A30) (P : A0 → A1 → A2 → A3 → A4 → A5 → A6 → A7 → A8 → A9 → A10 → A11 → A12 → A13 → A14 → A15 → A16 → A17 → A18 → A19 → A20 → A21 → A22 → A23 → A24 → A25 → A26 → A27 → A28 → A29 → A30 → Prop) : A0 × A1 × A2 × A3 × A4 × A5 × A6 × A7 × A8 × A9 × A10 × A11 × A12 × A13 × A14 × A15 × A16 × A17 × A18 × A19 × A20 × A21 × A22 × A23 × A24 × A25 × A26 × A27 × A28 × A29 × A30 := skd d (fun z => P z.1 z.2.1 z.2.2.1 z.2.2.2.1 z.2.2.2.2.1 z.2.2.2.2.2.1 z.2.2.2.2.2.2.1 z.2.2.2.2.2.2.2.1 z.2.2.2.2.2.2.2.2.1 z.2.2.2.2.2.2.2.2.2.1 z.2.2.2.2.2.2.2.2.2.2.1 z.2.2.2.2.2.2.2.2.2.2.2.1 z.2.2.2.2.2.2.2.2.2.2.2.2.1 z.2.2.2.2.2.2.2.2.2.2.2.2.2.1 z.2.2.2.2.2.2.2.2.2.2.2.2.2.2.1 z.2.2.2.2.2.2.2.2.2.2.2.2.2.2.2.1 z.2.2.2.2.2.2.2.2.2.2.2.2.2.2.2.2.1 z.2.2.2.2.2.2.2.2.2.2.2.2.2.2.2.2.2.1 z.2.2.2.2.2.2.2.2.2.2.2.2.2.2.2.2.2.2.1 z.2.2.2.2.2.2.2.2.2.2.2.2.2.2.2.2.2.2.2.1 z.2.2.2.2.2.2.2.2.2.2.2.2.2.2.2.2.2.2.2.2.1 z.2.2.2.2.2.2.2.2.2.2.2.2.2.2.2.2.2.2.2.2.2.1 z.2.2.2.2.2.2.2.2.2.2.2.2.2.2.2.2.2.2.2.2.2.2.1 z.2.2.2.2.2.2.2.2.2.2.2.2.2.2.2.2.2.2.2.2.2.2.2.1 z.2.2.2.2.2.2.2.2.2.2.2.2.2.2.2.2.2.2.2.2.2.2.2.2.1 z.2.2.2.2.2.2.2.2.2.2.2.2.2.2.2.2.2.2.2.2.2.2.2.2.2.1 z.2.2.2.2.2.2.2.2.2.2.2.2.2.2.2.2.2.2.2.2.2.2.2.2.2.2.1 z.2.2.2.2.2.2.2.2.2.2.2.2.2.2.2.2.2.2.2.2.2.2.2.2.2.2.2.1 z.2.2.2.2.2.2.2.2.2.2.2.2.2.2.2.2.2.2.2.2.2.2.2.2.2.2.2.2.1 z.2.2.2.2.2.2.2.2.2.2.2.2.2.2.2.2.2.2.2.2.2.2.2.2.2.2.2.2.2.1 z.2.2.2.2.2.2.2.2.2.2.2.2.2.2.2.2.2.2.2.2.2.2.2.2.2.2.2.2.2.2)
theorem sk31 {A0 A1 A2 A3 A4 A5 A6 A7 A8 A9 A10 A11 A12 A13 A14 A15 A16 A17 A18 A19 A20 A21 A22 A23 A24 A25 A26 A27 A28 A29 A30 : Type} (d : A0 × A1 × A2 × A3 × A4 × A5 × A6 × A7 × A8 × A9 × A10 × A11 × A12 × A13 × A14 × A15 × A16 × A17 × A18 × A19 × A20 × A21 × A22 × A23 × A24 × A25 × A26 × A27 × A28 × A29 × A30) {P : A0 → A1 → A2 → A3 → A4 → A5 → A6 → A7 → A8 → A9 → A10 → A11 → A12 → A13 → A14 → A15 → A16 → A17 → A18 → A19 → A20 → A21 → A22 → A23 → A24 → A25 → A26 → A27 → A28 → A29 → A30 → Prop} (h : P (sq31 d P).1 (sq31 d P).2.1 (sq31 d P).2.2.1 (sq31 d P).2.2.2.1 (sq31 d P).2.2.2.2.1 (sq31 d P).2.2.2.2.2.1 (sq31 d P).2.2.2.2.2.2.1 (sq31 d P).2.2.2.2.2.2.2.1 (sq31 d P).2.2.2.2.2.2.2.2.1 (sq31 d P).2.2.2.2.2.2.2.2.2.1 (sq31 d P).2.2.2.2.2.2.2.2.2.2.1 (sq31 d P).2.2.2.2.2.2.2.2.2.2.2.1 (sq31 d P).2.2.2.2.2.2.2.2.2.2.2.2.1 (sq31 d P).2.2.2.2.2.2.2.2.2.2.2.2.2.1 (sq31 d P).2.2.2.2.2.2.2.2.2.2.2.2.2.2.1 (sq31 d P).2.2.2.2.2.2.2.2.2.2.2.2.2.2.2.1 (sq31 d P).2.2.2.2.2.2.2.2.2.2.2.2.2.2.2.2.1 (sq31 d P).2.2.2.2.2.2.2.2.2.2.2.2.2.2.2.2.2.1 (sq31 d P).2.2.2.2.2.2.2.2.2.2.2.2.2.2.2.2.2.2.1 (sq31 d P).2.2.2.2.2.2.2.2.2.2.2.2.2.2.2.2.2.2.2.1 (sq31 d P).2.2.2.2.2.2.2.2.2.2.2.2.2.2.2.2.2.2.2.2.1 (sq31 d P).2.2.2.2.2.2.2.2.2.2.2.2.2.2.2.2.2.2.2.2.2.1 (sq31 d P).2.2.2.2.2.2.2.2.2.2.2.2.2.2.2.2.2.2.2.2.2.2.1 (sq31 d P).2.2.2.2.2.2.2.2.2.2.2.2.2.2.2.2.2.2.2.2.2.2.2.1 (sq31 d P).2.2.2.2.2.2.2.2.2.2.2.2.2.2.2.2.2.2.2.2.2.2.2.2.1 (sq31 d P).2.2.2.2.2.2.2.2.2.2.2.2.2.2.2.2.2.2.2.2.2.2.2.2.2.1 (sq31 d P).2.2.2.2.2.2.2.2.2.2.2.2.2.2.2.2.2.2.2.2.2.2.2.2.2.2.1 (sq31 d P).2.2.2.2.2.2.2.2.2.2.2.2.2.2.2.2.2.2.2.2.2.2.2.2.2.2.2.1 (sq31 d P).2.2.2.2.2.2.2.2.2.2.2.2.2.2.2.2.2.2.2.2.2.2.2.2.2.2.2.2.1 (sq31 d P).2.2.2.2.2.2.2.2.2.2.2.2.2.2.2.2.2.2.2.2.2.2.2.2.2.2.2.2.2.1 (sq31 d P).2.2.2.2.2.2.2.2.2.2.2.2.2.2.2.2.2.2.2.2.2.2.2.2.2.2.2.2.2.2) : ∀ x0 x1 x2 x3 x4 x5 x6 x7 x8 x9 x10 x11 x12 x13 x14 x15 x16 x17 x18 x19 x20 x21 x22 x23 x24 x25 x26 x27 x28 x29 x30, P x0 x1 x2 x3 x4 x5 x6 x7 x8 x9 x10 x11 x12 x13 x14 x15 x16 x17 x18 x19 x20 x21 x22 x23 x24 x25 x26 x27 x28 x29 x30 := fun x0 x1 x2 x3 x4 x5 x6 x7 x8 x9 x10 x11 x12 x13 x14 x15 x16 x17 x18 x19 x20 x21 x22 x23 x24 x25 x26 x27 x28 x29 x30 => skall d (fun z => P z.1 z.2.1 z.2.2.1 z.2.2.2.1 z.2.2.2.2.1 z.2.2.2.2.2.1 z.2.2.2.2.2.2.1 z.2.2.2.2.2.2.2.1 z.2.2.2.2.2.2.2.2.1 z.2.2.2.2.2.2.2.2.2.1 z.2.2.2.2.2.2.2.2.2.2.1 z.2.2.2.2.2.2.2.2.2.2.2.1 z.2.2.2.2.2.2.2.2.2.2.2.2.1 z.2.2.2.2.2.2.2.2.2.2.2.2.2.1 z.2.2.2.2.2.2.2.2.2.2.2.2.2.2.1 z.2.2.2.2.2.2.2.2.2.2.2.2.2.2.2.1 z.2.2.2.2.2.2.2.2.2.2.2.2.2.2.2.2.1 z.2.2.2.2.2.2.2.2.2.2.2.2.2.2.2.2.2.1 z.2.2.2.2.2.2.2.2.2.2.2.2.2.2.2.2.2.2.1 z.2.2.2.2.2.2.2.2.2.2.2.2.2.2.2.2.2.2.2.1 z.2.2.2.2.2.2.2.2.2.2.2.2.2.2.2.2.2.2.2.2.1 z.2.2.2.2.2.2.2.2.2.2.2.2.2.2.2.2.2.2.2.2.2.1 z.2.2.2.2.2.2.2.2.2.2.2.2.2.2.2.2.2.2.2.2.2.2.1 z.2.2.2.2.2.2.2.2.2.2.2.2.2.2.2.2.2.2.2.2.2.2.2.1 z.2.2.2.2.2.2.2.2.2.2.2.2.2.2.2.2.2.2.2.2.2.2.2.2.1 z.2.2.2.2.2.2.2.2.2.2.2.2.2.2.2.2.2.2.2.2.2.2.2.2.2.1 z.2.2.2.2.2.2.2.2.2.2.2.2.2.2.2.2.2.2.2.2.2.2.2.2.2.2.1 z.2.2.2.2.2.2.2.2.2.2.2.2.2.2.2.2.2.2.2.2.2.2.2.2.2.2.2.1 z.2.2.2.2.2.2.2.2.2.2.2.2.2.2.2.2.2.2.2.2.2.2.2.2.2.2.2.2.1 z.2.2.2.2.2.2.2.2.2.2.2.2.2.2.2.2.2.2.2.2.2.2.2.2.2.2.2.2.2.1 z.2.2.2.2.2.2.2.2.2.2.2.2.2.2.2.2.2.2.2.2.2.2.2.2.2.2.2.2.2.2) h (x0, x1, x2, x3, x4, x5, x6, x7, x8, x9, x10, x11, x12, x13, x14, x15, x16, x17, x18, x19, x20, x21, x22, x23, x24, x25, x26, x27, x28, x29, x30)
noncomputable def sq32 {A0 A1 A2 A3 A4 A5 A6 A7 A8 A9 A10 A11 A12 A13 A14 A15 A16 A17 A18 A19 A20 A21 A22 A23 A24 A25 A26 A27 A28 A29 A30 A31 : Type} (d : A0 × A1 × A2 × A3 × A4 × A5 × A6 × A7 × A8 × A9 × A10 × A11 × A12 × A13 × A14 × A15 × A16 × A17 × A18 × A19 × A20 × A21 × A22 × A23 × A24 × A25 × A26 × A27 × A28 × A29 × A30 × A31) (P : A0 → A1 → A2 → A3 → A4 → A5 → A6 → A7 → A8 → A9 → A10 → A11 → A12 → A13 → A14 → A15 → A16 → A17 → A18 → A19 → A20 → A21 → A22 → A23 → A24 → A25 → A26 → A27 → A28 → A29 → A30 → A31 → Prop) : A0 × A1 × A2 × A3 × A4 × A5 × A6 × A7 × A8 × A9 × A10 × A11 × A12 × A13 × A14 × A15 × A16 × A17 × A18 × A19 × A20 × A21 × A22 × A23 × A24 × A25 × A26 × A27 × A28 × A29 × A30 × A31 := skd d (fun z => P z.1 z.2.1 z.2.2.1 z.2.2.2.1 z.2.2.2.2.1 z.2.2.2.2.2.1 z.2.2.2.2.2.2.1 z.2.2.2.2.2.2.2.1 z.2.2.2.2.2.2.2.2.1 z.2.2.2.2.2.2.2.2.2.1 z.2.2.2.2.2.2.2.2.2.2.1 z.2.2.2.2.2.2.2.2.2.2.2.1 z.2.2.2.2.2.2.2.2.2.2.2.2.1 z.2.2.2.2.2.2.2.2.2.2.2.2.2.1 z.2.2.2.2.2.2.2.2.2.2.2.2.2.2.1 z.2.2.2.2.2.2.2.2.2.2.2.2.2.2.2.1 z.2.2.2.2.2.2.2.2.2.2.2.2.2.2.2.2.1 z.2.2.2.2.2.2.2.2.2.2.2.2.2.2.2.2.2.1 z.2.2.2.2.2.2.2.2.2.2.2.2.2.2.2.2.2.2.1 z.2.2.2.2.2.2.2.2.2.2.2.2.2.2.2.2.2.2.2.1 z.2.2.2.2.2.2.2.2.2.2.2.2.2.2.2.2.2.2.2.2.1 z.2.2.2.2.2.2.2.2.2.2.2.2.2.2.2.2.2.2.2.2.2.1 z.2.2.2.2.2.2.2.2.2.2.2.2.2.2.2.2.2.2.2.2.2.2.1 z.2.2.2.2.2.2.2.2.2.2.2.2.2.2.2.2.2.2.2.2.2.2.2.1 z.2.2.2.2.2.2.2.2.2.2.2.2.2.2.2.2.2.2.2.2.2.2.2.2.1 z.2.2.2.2.2.2.2.2.2.2.2.2.2.2.2.2.2.2.2.2.2.2.2.2.2.1 z.2.2.2.2.2.2.2.2.2.2.2.2.2.2.2.2.2.2.2.2.2.2.2.2.2.2.1 z.2.2.2.2.2.2.2.2.2.2.2.2.2.2.2.2.2.2.2.2.2.2.2.2.2.2.2.1 z.2.2.2.2.2.2.2.2.2.2.2.2.2.2.2.2.2.2.2.2.2.2.2.2.2.2.2.2.1 z.2.2.2.2.2.2.2.2.2.2.2.2.2.2.2.2.2.2.2.2.2.2.2.2.2.2.2.2.2.1 z.2.2.2.2.2.2.2.2.2.2.2.2.2.2.2.2.2.2.2.2.2.2.2.2.2.2.2.2.2.2.1 z.2.2.2.2.2.2.2.2.2.2.2.2.2.2.2.2.2.2.2.2.2.2.2.2.2.2.2.2.2.2.2)
theorem sk32 {A0 A1 A2 A3 A4 A5 A6 A7 A8 A9 A10 A11 A12 A13 A14 A15 A16 A17 A18 A19 A20 A21 A22 A23 A24 A25 A26 A27 A28 A29 A30 A31 : Type} (d : A0 × A1 × A2 × A3 × A4 × A5 × A6 × A7 × A8 × A9 × A10 × A11 × A12 × A13 × A14 × A15 × A16 × A17 × A18 × A19 × A20 × A21 × A22 × A23 × A24 × A25 × A26 × A27 × A28 × A29 × A30 × A31) {P : A0 → A1 → A2 → A3 → A4 → A5 → A6 → A7 → A8 → A9 → A10 → A11 → A12 → A13 → A14 → A15 → A16 → A17 → A18 → A19 → A20 → A21 → A22 → A23 → A24 → A25 → A26 → A27 → A28 → A29 → A30 → A31 → Prop} (h : P (sq32 d P).1 (sq32 d P).2.1 (sq32 d P).2.2.1 (sq32 d P).2.2.2.1 (sq32 d P).2.2.2.2.1 (sq32 d P).2.2.2.2.2.1 (sq32 d P).2.2.2.2.2.2.1 (sq32 d P).2.2.2.2.2.2.2.1 (sq32 d P).2.2.2.2.2.2.2.2.1 (sq32 d P).2.2.2.2.2.2.2.2.2.1 (sq32 d P).2.2.2.2.2.2.2.2.2.2.1 (sq32 d P).2.2.2.2.2.2.2.2.2.2.2.1 (sq32 d P).2.2.2.2.2.2.2.2.2.2.2.2.1 (sq32 d P).2.2.2.2.2.2.2.2.2.2.2.2.2.1 (sq32 d P).2.2.2.2.2.2.2.2.2.2.2.2.2.2.1 (sq32 d P).2.2.2.2.2.2.2.2.2.2.2.2.2.2.2.1 (sq32 d P).2.2.2.2.2.2.2.2.2.2.2.2.2.2.2.2.1 (sq32 d P).2.2.2.2.2.2.2.2.2.2.2.2.2.2.2.2.2.1 (sq32 d P).2.2.2.2.2.2.2.2.2.2.2.2.2.2.2.2.2.2.1 (sq32 d P).2.2.2.2.2.2.2.2.2.2.2.2.2.2.2.2.2.2.2.1 (sq32 d P).2.2.2.2.2.2.2.2.2.2.2.2.2.2.2.2.2.2.2.2.1 (sq32 d P).2.2.2.2.2.2.2.2.2.2.2.2.2.2.2.2.2.2.2.2.2.1 (sq32 d P).2.2.2.2.2.2.2.2.2.2.2.2.2.2.2.2.2.2.2.2.2.2.1 (sq32 d P).2.2.2.2.2.2.2.2.2.2.2.2.2.2.2.2.2.2.2.2.2.2.2.1 (sq32 d P).2.2.2.2.2.2.2.2.2.2.2.2.2.2.2.2.2.2.2.2.2.2.2.2.1 (sq32 d P).2.2.2.2.2.2.2.2.2.2.2.2.2.2.2.2.2.2.2.2.2.2.2.2.2.1 (sq32 d P).2.2.2.2.2.2.2.2.2.2.2.2.2.2.2.2.2.2.2.2.2.2.2.2.2.2.1 (sq32 d P).2.2.2.2.2.2.2.2.2.2.2.2.2.2.2.2.2.2.2.2.2.2.2.2.2.2.2.1 (sq32 d P).2.2.2.2.2.2.2.2.2.2.2.2.2.2.2.2.2.2.2.2.2.2.2.2.2.2.2.2.1 (sq32 d P).2.2.2.2.2.2.2.2.2.2.2.2.2.2.2.2.2.2.2.2.2.2.2.2.2.2.2.2.2.1 (sq32 d P).2.2.2.2.2.2.2.2.2.2.2.2.2.2.2.2.2.2.2.2.2.2.2.2.2.2.2.2.2.2.1 (sq32 d P).2.2.2.2.2.2.2.2.2.2.2.2.2.2.2.2.2.2.2.2.2.2.2.2.2.2.2.2.2.2.2) : ∀ x0 x1 x2 x3 x4 x5 x6 x7 x8 x9 x10 x11 x12 x13 x14 x15 x16 x17 x18 x19 x20 x21 x22 x23 x24 x25 x26 x27 x28 x29 x30 x31, P x0 x1 x2 x3 x4 x5 x6 x7 x8 x9 x10 x11 x12 x13 x14 x15 x16 x17 x18 x19 x20 x21 x22 x23 x24 x25 x26 x27 x28 x29 x30 x31 := fun x0 x1 x2 x3 x4 x5 x6 x7 x8 x9 x10 x11 x12 x13 x14 x15 x16 x17 x18 x19 x20 x21 x22 x23 x24 x25 x26 x27 x28 x29 x30 x31 => skall d (fun z => P z.1 z.2.1 z.2.2.1 z.2.2.2.1 z.2.2.2.2.1 z.2.2.2.2.2.1 z.2.2.2.2.2.2.1 z.2.2.2.2.2.2.2.1 z.2.2.2.2.2.2.2.2.1 z.2.2.2.2.2.2.2.2.2.1 z.2.2.2.2.2.2.2.2.2.2.1 z.2.2.2.2.2.2.2.2.2.2.2.1 z.2.2.2.2.2.2.2.2.2.2.2.2.1 z.2.2.2.2.2.2.2.2.2.2.2.2.2.1 z.2.2.2.2.2.2.2.2.2.2.2.2.2.2.1 z.2.2.2.2.2.2.2.2.2.2.2.2.2.2.2.1 z.2.2.2.2.2.2.2.2.2.2.2.2.2.2.2.2.1 z.2.2.2.2.2.2.2.2.2.2.2.2.2.2.2.2.2.1 z.2.2.2.2.2.2.2.2.2.2.2.2.2.2.2.2.2.2.1 z.2.2.2.2.2.2.2.2.2.2.2.2.2.2.2.2.2.2.2.1 z.2.2.2.2.2.2.2.2.2.2.2.2.2.2.2.2.2.2.2.2.1 z.2.2.2.2.2.2.2.2.2.2.2.2.2.2.2.2.2.2.2.2.2.1 z.2.2.2.2.2.2.2.2.2.2.2.2.2.2.2.2.2.2.2.2.2.2.1 z.2.2.2.2.2.2.2.2.2.2.2.2.2.2.2.2.2.2.2.2.2.2.2.1 z.2.2.2.2.2.2.2.2.2.2.2.2.2.2.2.2.2.2.2.2.2.2.2.2.1 z.2.2.2.2.2.2.2.2.2.2.2.2.2.2.2.2.2.2.2.2.2.2.2.2.2.1 z.2.2.2.2.2.2.2.2.2.2.2.2.2.2.2.2.2.2.2.2.2.2.2.2.2.2.1 z.2.2.2.2.2.2.2.2.2.2.2.2.2.2.2.2.2.2.2.2.2.2.2.2.2.2.2.1 z.2.2.2.2.2.2.2.2.2.2.2.2.2.2.2.2.2.2.2.2.2.2.2.2.2.2.2.2.1 z.2.2.2.2.2.2.2.2.2.2.2.2.2.2.2.2.2.2.2.2.2.2.2.2.2.2.2.2.2.1 z.2.2.2.2.2.2.2.2.2.2.2.2.2.2.2.2.2.2.2.2.2.2.2.2.2.2.2.2.2.2.1 z.2.2.2.2.2.2.2.2.2.2.2.2.2.2.2.2.2.2.2.2.2.2.2.2.2.2.2.2.2.2.2) h (x0, x1, x2, x3, x4, x5, x6, x7, x8, x9, x10, x11, x12, x13, x14, x15, x16, x17, x18, x19, x20, x21, x22, x23, x24, x25, x26, x27, x28, x29, x30, x31)
end Mine.Internal
end
noncomputable section -- Pev
theorem Mine.Internal.wTopOff2 : True := by w_top off; trivial
local macro_rules | `(tactic| walk_at "no such line") => `(tactic| fail)
open PySem PySem.W PySem.Calls PyProof.Rows
namespace Mine.Internal
noncomputable def AllMul : List (Int × Int) → Prop
  | [] => True
  | (a, b) :: r => IntMulOk a b ∧ AllMul r
theorem AllMul.left : ∀ {x y : List (Int × Int)}, AllMul (x ++ y) → AllMul x
  | [], _, _ => trivial
  | (_, _) :: _, _, h => ⟨h.1, AllMul.left h.2⟩
theorem AllMul.right : ∀ {x y : List (Int × Int)}, AllMul (x ++ y) → AllMul y
  | [], _, h => h
  | (_, _) :: _, _, h => AllMul.right (h.2 : AllMul (_ ++ _))
noncomputable def pevI (op : Operator) (a b : Int) (k : Nat) : Option (List (Int × Int) × Value × Nat) := match op with
  | .Add => some ([], .int (a + b) k, k + 1)
  | .Sub => some ([], .int (a - b) k, k + 1)
  | .Mult => some ([(a, b)], .int (a * b) k, k + 1)
  | _ => none
noncomputable def pevF (op : Operator) (a b : UInt64) (k : Nat) : Option (List (Int × Int) × Value × Nat) := match op with
  | .Add => some ([], .float (Float64.add a b) k, k + 1)
  | .Sub => some ([], .float (Float64.sub a b) k, k + 1)
  | .Mult => some ([], .float (Float64.mul a b) k, k + 1)
  | _ => none
noncomputable def asI : Value → Option Int
  | .int a _ => some a
  | _ => none
noncomputable def asF : Value → Option UInt64
  | .float a _ => some a
  | _ => none
noncomputable def twoV {α : Type} (x y : Value) (fi : Int → Int → Option α) (ff : UInt64 → UInt64 → Option α) : Option α := match asI x, asF x with
  | some a, _ => match asI y with
    | some b => fi a b
    | none => none
  | none, some a => match asF y with
    | some b => ff a b
    | none => none
  | none, none => none
noncomputable def bnd {α β : Type} (x : Option (List (Int × Int) × α × Nat)) (f : List (Int × Int) → α → Nat → Option β) : Option β := match x with
  | some (c, a, k) => f c a k
  | none => none
noncomputable def pevN (u : Option Value) (b : Bool) (k : Nat) : Option (List (Int × Int) × Value × Nat) := match u, b with
  | some v, true => some ([], v, k)
  | some _, false => none
  | none, _ => none
noncomputable def pev (cs : Scope) (m : Str → Option Value) : Nat → Expr → Nat → Option (List (Int × Int) × Value × Nat)
  | 0, _, _ => none
  | n + 1, e, k => match e with
    | .Name x _ => pevN (m x) (cs.names.lookup x == some .local && !(x == ("__debug__" : Str))) k
    | .Constant c _ _ => match c with
      | .int i => some ([], .int i k, k + 1)
      | .float x => some ([], .float x k, k + 1)
      | _ => none
    | .BinOp l op r _ => bnd (pev cs m n l k) fun c a k1 => bnd (pev cs m n r k1) fun d b k2 => bnd (twoV a b (fun a b => pevI op a b k2) (fun a b => pevF op a b k2)) fun f v k3 => some (c ++ d ++ f, v, k3)
    | _ => none
theorem dead {α : Type} {x : α} {P : Prop} (h : none = some x) : P := nomatch h
theorem bnd_elim {α β : Type} {x : Option (List (Int × Int) × α × Nat)} {f : List (Int × Int) → α → Nat → Option β} {y : β} {P : Prop} (h : bnd x f = some y) (k : ∀ c a n, x = some (c, a, n) → f c a n = some y → P) : P := by
  cases x with
  | some a => exact k _ _ _ rfl h
  | none => exact dead h
theorem fin_all {α : Type} {c1 c : List (Int × Int)} {v1 v : α} {k1 k' : Nat} (he : some (c1, v1, k1) = some (c, v, k')) (hc : AllMul c) : AllMul c1 := by cases he; exact hc
theorem fin_q {α : Type} (R : α → Nat → Prop) {c1 c : List (Int × Int)} {v1 v : α} {k1 k' : Nat} (he : some (c1, v1, k1) = some (c, v, k')) (hQ : R v k') : R v1 k1 := by cases he; exact hQ
theorem fin_b (R : Bool → Prop) {b r : Bool} (he : some b = some r) (h : R r) : R b := by cases he; exact h
theorem asI_inv {v : Value} {a : Int} (h : asI v = some a) : ∃ t, v = .int a t := by
  cases v with
  | int b t => cases h; exact ⟨t, rfl⟩
  | _ => exact dead h
theorem asF_inv {v : Value} {a : UInt64} (h : asF v = some a) : ∃ t, v = .float a t := by
  cases v with
  | float b t => cases h; exact ⟨t, rfl⟩
  | _ => exact dead h
theorem twoV_elim {α : Type} {x y : Value} {fi : Int → Int → Option α} {ff : UInt64 → UInt64 → Option α} {r : α} (h : twoV x y fi ff = some r) (P : Value → Value → Prop) (ki : ∀ a b t u, fi a b = some r → P (.int a t) (.int b u)) (kf : ∀ a b t u, ff a b = some r → P (.float a t) (.float b u)) : P x y := by
  unfold twoV at h
  generalize hx : asI x = ix at h
  generalize hy : asI y = iy at h
  generalize hu : asF x = fx at h
  generalize hv : asF y = fy at h
  cases ix with
  | some a =>
    cases iy with
    | some b =>
      obtain ⟨t, rfl⟩ := asI_inv hx
      obtain ⟨u, rfl⟩ := asI_inv hy
      exact ki a b t u h
    | none => exact dead h
  | none =>
    cases fx with
    | some a =>
      cases fy with
      | some b =>
        obtain ⟨t, rfl⟩ := asF_inv hu
        obtain ⟨u, rfl⟩ := asF_inv hv
        exact kf a b t u h
      | none => exact dead h
    | none => exact dead h
theorem pevN_inv {u : Option Value} {b : Bool} {k k' : Nat} {c : List (Int × Int)} {v : Value} (h : pevN u b k = some (c, v, k')) : u = some v ∧ b = true ∧ k = k' := by
  cases u with
  | none => exact dead h
  | some u =>
    cases b with
    | false => exact dead h
    | true => cases h; exact ⟨rfl, rfl, rfl⟩
section
variable {prog : Program} {w : World} {A : Around} {E : Value → Shared → Prop} {h₀ : Heap} {L a : Addr} {m : Str → Option Value} {cn : Str} {cs : Scope} {ccd : Value} {cl : List (Str × Addr)}
theorem pevI_sound {op : Operator} {a b : Int} {ta tb : Tok} {v : Value} {k k' : Nat} {c : List (Int × Int)} {Q : Value → Shared → Prop} {h : Heap} {g : Array GenState} {d : Drawn} {o : OsState} (e : pevI op a b k = some (c, v, k')) (hc : AllMul c) (hQ : Q v ⟨h, g, d, k', o⟩) :
    wpAny (model prog w) A (binaryOp op (.int a ta) (.int b tb)) Q E ⟨h, g, d, k, o⟩ := by
  cases op with
  | Add => exact add_int (fin_q (fun v k => Q v ⟨h, g, d, k, o⟩) e hQ)
  | Sub => exact sub_int (fin_q (fun v k => Q v ⟨h, g, d, k, o⟩) e hQ)
  | Mult => exact mul_int (fin_q (fun v k => Q v ⟨h, g, d, k, o⟩) e hQ) (fin_all e hc).1
  | _ => exact dead e
theorem pevF_sound {op : Operator} {a b : UInt64} {ta tb : Tok} {v : Value} {k k' : Nat} {c : List (Int × Int)} {Q : Value → Shared → Prop} {h : Heap} {g : Array GenState} {d : Drawn} {o : OsState} (e : pevF op a b k = some (c, v, k')) (hQ : Q v ⟨h, g, d, k', o⟩) :
    wpAny (model prog w) A (binaryOp op (.float a ta) (.float b tb)) Q E ⟨h, g, d, k, o⟩ := by
  cases op with
  | Add => exact add_float (fin_q (fun v k => Q v ⟨h, g, d, k, o⟩) e hQ)
  | Sub => exact sub_float (fin_q (fun v k => Q v ⟨h, g, d, k, o⟩) e hQ)
  | Mult => exact mul_float (fin_q (fun v k => Q v ⟨h, g, d, k, o⟩) e hQ)
  | _ => exact dead e
theorem pev_sound (hk : cs.kind = .function) {h : Heap} {g : Array GenState} {d : Drawn} {o : OsState} (F : Fr h₀ L h m) : ∀ (n : Nat) (e : Expr) (k k' : Nat) (c : List (Int × Int)) (v : Value) (Q : Value → Shared → Prop), pev cs m n e k = some (c, v, k') → AllMul c → Q v ⟨h, g, d, k', o⟩ →
    wpAny (model prog w) A (eval e (envX cn cs L a ccd cl)) Q E ⟨h, g, d, k, o⟩ := by
  intro n
  induction n with
  | zero => intro e k k' c v Q he; exact dead he
  | succ n ih =>
    intro e k k' c v Q he hc hQ
    cases e with
    | Name x pos =>
      have hn := pevN_inv (u := m x) (b := cs.names.lookup x == some .local && !(x == ("__debug__" : Str))) he
      have hb := Bool.and_eq_true_iff.mp hn.2.1
      exact nameX_L F hn.1 (hn.2.2 ▸ hQ) hk (beq_iff_eq.mp hb.1) (by simpa using hb.2)
    | Constant i t p =>
      cases i with
      | int i => cases he; exact wpAny_Constant_int hQ
      | float x => cases he; exact wpAny_Constant_float hQ
      | _ => exact dead he
    | BinOp l op r pos =>
      refine bnd_elim he fun c1 u k1 h1 he => bnd_elim he fun c2 u2 k2 h2 he => bnd_elim he fun c3 u3 k3 h3 he => ?_
      have hc := fin_all he hc
      exact wpAny_BinOp (ih l _ _ _ _ _ h1 hc.left.left (ih r _ _ _ _ _ h2 hc.left.right (twoV_elim h3 (fun x y => wpAny (model prog w) A (binaryOp op x y) Q E ⟨h, g, d, k2, o⟩)
        (fun a b ta tb h3 => pevI_sound h3 hc.right (fin_q (fun v k => Q v ⟨h, g, d, k, o⟩) he hQ)) (fun a b ta tb h3 => pevF_sound h3 (fin_q (fun v k => Q v ⟨h, g, d, k, o⟩) he hQ)))))
    | _ => exact dead he
theorem pev_ok {h : Heap} {g : Array GenState} {d : Drawn} {o : OsState} {k k' : Nat} {e : Expr} {c : List (Int × Int)} {v : Value} {Q : Value → Shared → Prop} (F : Fr h₀ L h m) (he : pev cs m 12 e k = some (c, v, k')) (hc : AllMul c) (hk : cs.kind = .function) (hQ : Q v ⟨h, g, d, k', o⟩) :
    wpAny (model prog w) A (eval e (envX cn cs L a ccd cl)) Q E ⟨h, g, d, k, o⟩ := pev_sound hk F 12 e k k' c v Q he hc hQ
noncomputable def pevs (cs : Scope) (m : Str → Option Value) : List Expr → Nat → Option (List (Int × Int) × List Value × Nat)
  | [], k => some ([], [], k)
  | e :: r, k => bnd (pev cs m 12 e k) fun c v k1 => bnd (pevs cs m r k1) fun d vs k2 => some (c ++ d, v :: vs, k2)
theorem pev_star {n : Nat} {e : Expr} {rest : List Expr} {env : Env} {k : Nat} {x} (he : pev cs m n e k = some x) : starEach (e :: rest) env = (false, eval e env) :: starEach rest env := by
  cases n with
  | zero => exact dead he
  | succ n =>
    cases e with
    | Starred => exact dead he
    | _ => rfl
theorem args_ok {h : Heap} {g : Array GenState} {d : Drawn} {o : OsState} {pos : Pos} (F : Fr h₀ L h m) (hk : cs.kind = .function) : ∀ {es : List Expr} {k k' : Nat} {c : List (Int × Int)} {vs : List Value} {Q : List Value → Shared → Prop}, pevs cs m es k = some (c, vs, k') → AllMul c → Q vs ⟨h, g, d, k', o⟩ →
    wpAny (model prog w) A (spliced (backTo pos (starEach es (envX cn cs L a ccd cl)))) Q E ⟨h, g, d, k, o⟩
  | [], _, _, _, _, _, he, _, hQ => by cases he; exact spliced_none hQ
  | e :: r, k, k', c, vs, Q, he, hc, hQ => by
    refine bnd_elim he fun c1 v k1 h1 he => bnd_elim he fun c2 vs' k2 h2 he => ?_
    have hc := fin_all he hc
    exact spliced_more (pev_sound hk F 12 e _ _ _ _ _ h1 hc.left (args_ok F hk h2 hc.right (fin_q (fun v k => Q v ⟨h, g, d, k, o⟩) he hQ))) (pev_star h1)
noncomputable def cmpI (op : CmpOp) (a b : Int) : Option Bool := match op with
  | .Eq => some (a == b)
  | .NotEq => some (a != b)
  | .Lt => some (decide (a < b))
  | .LtE => some (decide (a ≤ b))
  | .Gt => some (decide (a > b))
  | .GtE => some (decide (a ≥ b))
  | _ => none
noncomputable def cmpFl (op : CmpOp) (a b : UInt64) : Option Bool := match op with
  | .Eq => some (Float64.cmp a b == some Ordering.eq)
  | .NotEq => some (Float64.cmp a b != some Ordering.eq)
  | .Lt => some (Float64.cmp a b == some Ordering.lt)
  | .LtE => some (Float64.cmp a b == some Ordering.lt || Float64.cmp a b == some Ordering.eq)
  | .Gt => some (Float64.cmp a b == some Ordering.gt)
  | .GtE => some (Float64.cmp a b == some Ordering.gt || Float64.cmp a b == some Ordering.eq)
  | _ => none
theorem cmpI_sound {s : Shared} {op : CmpOp} {a b : Int} {ta tb : Tok} {r : Bool} {Q : Value → Shared → Prop} (e : cmpI op a b = some r) (hQ : Q (.bool r) s) : wpAny (model prog w) A (compareOp op (.int a ta) (.int b tb)) Q E s := by
  cases op with
  | Eq => exact eq_int (fin_b (fun r => Q (.bool r) s) e hQ)
  | NotEq => exact ne_int (fin_b (fun r => Q (.bool r) s) e hQ)
  | Lt => exact lt_int (fin_b (fun r => Q (.bool r) s) e hQ)
  | LtE => exact le_int (fin_b (fun r => Q (.bool r) s) e hQ)
  | Gt => exact gt_int (fin_b (fun r => Q (.bool r) s) e hQ)
  | GtE => exact ge_int (fin_b (fun r => Q (.bool r) s) e hQ)
  | _ => exact dead e
theorem cmpFl_sound {s : Shared} {op : CmpOp} {a b : UInt64} {ta tb : Tok} {r : Bool} {Q : Value → Shared → Prop} (e : cmpFl op a b = some r) (hQ : Q (.bool r) s) : wpAny (model prog w) A (compareOp op (.float a ta) (.float b tb)) Q E s := by
  cases op with
  | Eq => exact AutoFloatOps.eq_0 (fin_b (fun r => Q (.bool r) s) e hQ)
  | NotEq => exact AutoFloatOps.ne_0 (fin_b (fun r => Q (.bool r) s) e hQ)
  | Lt => exact AutoFloatOps.lt_0 (fin_b (fun r => Q (.bool r) s) e hQ)
  | LtE => exact AutoFloatOps.le_0 (fin_b (fun r => Q (.bool r) s) e hQ)
  | Gt => exact AutoFloatOps.gt_0 (fin_b (fun r => Q (.bool r) s) e hQ)
  | GtE => exact AutoFloatOps.ge_0 (fin_b (fun r => Q (.bool r) s) e hQ)
  | _ => exact dead e
noncomputable def pevC (cs : Scope) (m : Str → Option Value) (l : Expr) (op : CmpOp) (r : Expr) (k : Nat) : Option (List (Int × Int) × Bool × Nat) :=
  bnd (pev cs m 12 l k) fun c x k1 => bnd (pev cs m 12 r k1) fun d y k2 => match twoV x y (cmpI op) (cmpFl op) with
    | some b => some (c ++ d, b, k2)
    | none => none
theorem cmp_ok {h : Heap} {g : Array GenState} {d : Drawn} {o : OsState} {k k' : Nat} {l r : Expr} {op : CmpOp} {pos : Pos} {whole : Sem Value} {c : List (Int × Int)} {b : Bool} {Q : Bool → Shared → Prop} (F : Fr h₀ L h m) (he : pevC cs m l op r k = some (c, b, k')) (hc : AllMul c) (hk : cs.kind = .function) (hm : behindInMarks op r = false) (hQ : Q b ⟨h, g, d, k', o⟩) :
    wpAny (model prog w) A (isTrue (.Compare l [op] [r] pos) (envX cn cs L a ccd cl) whole) Q E ⟨h, g, d, k, o⟩ := by
  refine bnd_elim he fun c1 x k1 h1 he => bnd_elim he fun c2 y k2 h2 he => ?_
  generalize h3 : twoV x y (cmpI op) (cmpFl op) = b' at he
  cases b' with
  | none => exact dead he
  | some b' =>
    have hc := fin_all he hc
    have hQ := fin_q (fun b k => Q b ⟨h, g, d, k, o⟩) he hQ
    exact wpAny_isTrue_Compare1 (pev_sound hk F 12 l _ _ _ _ _ h1 hc.left (pev_sound hk F 12 r _ _ _ _ _ h2 hc.right (twoV_elim h3 (fun x y => wpAny (model prog w) A (compareOp op x y) (fun v s => wpAny (model prog w) A (truthy v) Q E s) E ⟨h, g, d, k2, o⟩)
      (fun a b ta tb h3 => cmpI_sound h3 (wpAny_truthy_bool hQ)) (fun a b ta tb h3 => cmpFl_sound h3 (wpAny_truthy_bool hQ))))) hm
theorem assign_ok {h : Heap} {g : Array GenState} {d : Drawn} {o : OsState} {k k' : Nat} {e : Expr} {x : Str} {pos' pos : Pos} {c : List (Int × Int)} {v : Value} {news : List (Addr × Obj)} {Q : Flow → Shared → Prop} (F : Fr h₀ L h m) (N : News h₀ L h news) (he : pev cs m 12 e k = some (c, v, k')) (hc : AllMul c) (hk : cs.kind = .function)
    (hx : (envX cn cs L a ccd cl).kindOf x = some .local) (hs : swapsWith e (some (.Name x pos')) pos.line (envX cn cs L a ccd cl) = pure false)
    (hQ : ∀ h', let m' := (fun y => if y = x then some v else m y); Fr h₀ L h' m' → News h₀ L h' news → Q .next ⟨h', g, d, k' + 1, o⟩) :
    wpAny (model prog w) A (exec (.Assign [.Name x pos'] e pos) (envX cn cs L a ccd cl)) Q E ⟨h, g, d, k, o⟩ :=
  wpAny_Assign_Name (pev_sound hk F 12 e _ _ _ _ _ he hc (storeY_L (Q := fun _ => Q .next) F N hQ hk hx)) hs
theorem assign_ok0 {h : Heap} {g : Array GenState} {d : Drawn} {o : OsState} {k k' : Nat} {e : Expr} {x : Str} {pos' pos : Pos} {c : List (Int × Int)} {v : Value} {news : List (Addr × Obj)} {Q : Flow → Shared → Prop} (F : Fr h₀ L h m) (N : News h₀ L h news) (he : pev cs m 12 e k = some (c, v, k')) (hc : AllMul c) (hk : cs.kind = .function)
    (hx : (envX cn cs L a ccd cl).kindOf x = some .local) (hs : swapsWith e (some (.Name x pos')) pos.line (envX cn cs L a ccd cl) = pure false)
    (hQ : ∀ h', Fr h₀ L h' (fun y => if y = x then some v else m y) → News h₀ L h' news → Q .next ⟨h', g, d, k' + 1, o⟩) :
    wpAny (model prog w) A (exec (.Assign [.Name x pos'] e pos) (envX cn cs L a ccd cl)) Q E ⟨h, g, d, k, o⟩ := assign_ok F N he hc hk hx hs hQ
theorem ret_ok {h : Heap} {g : Array GenState} {d : Drawn} {o : OsState} {k k' : Nat} {e : Expr} {pos : Pos} {c : List (Int × Int)} {v : Value} {Q : Flow → Shared → Prop} (F : Fr h₀ L h m) (he : pev cs m 12 e k = some (c, v, k')) (hc : AllMul c) (hk : cs.kind = .function) (hQ : Q (.ret v) ⟨h, g, d, k', o⟩) :
    wpAny (model prog w) A (exec (.Return (some e) pos) (envX cn cs L a ccd cl)) Q E ⟨h, g, d, k, o⟩ := wpAny_Return_some (pev_sound hk F 12 e _ _ _ _ _ he hc hQ)
end
end Mine.Internal
end
theorem Mine.Internal.kwPRE : True := by
  k_with "#bin" => ((k_here; k_dflt (refine' Mine.Internal.pev_ok ?F ?e ?c ?k ?_; (case F => k_asm); (case e => exact rfl); (case c => (repeat (first | exact trivial | refine And.intro (by mul_fits) ?_))); (case k => rfl); k_whole)))
  k_with "#args" => ((k_here; k_dflt (refine' Mine.Internal.args_ok ?F ?k ?e ?c ?_; (case F => k_asm); (case k => rfl); (case e => exact rfl); (case c => (repeat (first | exact trivial | refine And.intro (by mul_fits) ?_))); k_whole)))
  k_with "#cmp" => ((k_here; k_dflt (refine' Mine.Internal.cmp_ok ?F ?e ?c ?k ?n ?_; (case F => k_asm); (case e => exact rfl); (case c => (repeat (first | exact trivial | refine And.intro (by mul_fits) ?_))); (case k => rfl); (case n => rfl); k_whole)))
  k_with "#asg" => ((k_here; k_dflt (refine' Mine.Internal.assign_ok ?F ?N ?e ?c ?k ?x ?s ?_; (case F => k_asm); (case N => k_asm); (case e => exact rfl); (case c => (repeat (first | exact trivial | refine And.intro (by mul_fits) ?_))); (case k => rfl); (case x => rfl); (case s => rfl); k_whole; intro _ _ _ _; (try k_sweep))))
  k_with "#asg0" => ((k_here; k_dflt (refine' Mine.Internal.assign_ok0 ?F ?N ?e ?c ?k ?x ?s ?_; (case F => k_asm); (case N => k_asm); (case e => exact rfl); (case c => (repeat (first | exact trivial | refine And.intro (by mul_fits) ?_))); (case k => rfl); (case x => rfl); (case s => rfl); k_whole; intro _ _ _; (try k_sweep))))
  k_with "#ret" => ((k_here; k_dflt (refine' Mine.Internal.ret_ok ?F ?e ?c ?k ?_; (case F => k_asm); (case e => exact rfl); (case c => (repeat (first | exact trivial | refine And.intro (by mul_fits) ?_))); (case k => rfl); k_whole)))
  k_with "#sto" => ((k_here; k_dflt (refine' Mine.Internal.storeY_L ?F ?N ?_ ?a ?b; (case F => k_asm); (case N => k_asm); (case a => rfl); (case b => rfl); k_whole; intro _ _ _ _; (try k_sweep))))
  k_with "#nz" => ((first | with_reducible assumption | exact Mine.Internal.nzA1 (by with_reducible assumption) | exact Mine.Internal.nzA2 (by with_reducible assumption) | exact Mine.Internal.nzZ2 (by with_reducible assumption) | exact Mine.Internal.nzA3 (by with_reducible assumption) | exact Mine.Internal.nzZ3 (by with_reducible assumption) | exact Mine.Internal.nzA4 (by with_reducible assumption) | exact Mine.Internal.nzZ4 (by with_reducible assumption) | exact Mine.Internal.nzA5 (by with_reducible assumption) | exact Mine.Internal.nzZ5 (by with_reducible assumption) | exact Mine.Internal.nzA6 (by with_reducible assumption) | exact Mine.Internal.nzZ6 (by with_reducible assumption) | exact Mine.Internal.nzA7 (by with_reducible assumption) | exact Mine.Internal.nzZ7 (by with_reducible assumption) | exact Mine.Internal.nzA8 (by with_reducible assumption) | exact Mine.Internal.nzZ8 (by with_reducible assumption) | exact Mine.Internal.nzA9 (by with_reducible assumption) | exact Mine.Internal.nzZ9 (by with_reducible assumption) | exact Mine.Internal.nzA10 (by with_reducible assumption) | exact Mine.Internal.nzZ10 (by with_reducible assumption) | exact Mine.Internal.nzA11 (by with_reducible assumption) | exact Mine.Internal.nzZ11 (by with_reducible assumption) | exact Mine.Internal.nzA12 (by with_reducible assumption) | exact Mine.Internal.nzZ12 (by with_reducible assumption) | exact Mine.Internal.nzA13 (by with_reducible assumption) | exact Mine.Internal.nzZ13 (by with_reducible assumption) | exact Mine.Internal.nzA14 (by with_reducible assumption) | exact Mine.Internal.nzZ14 (by with_reducible assumption) | exact Mine.Internal.nzA15 (by with_reducible assumption) | exact Mine.Internal.nzZ15 (by with_reducible assumption) | exact Mine.Internal.nzA16 (by with_reducible assumption) | exact Mine.Internal.nzZ16 (by with_reducible assumption)))
  k_with "#base" => (first | (k_unfold; (try dsimp only)) | (k_end; wrow_close) | walk1 | (dsimp only; walk1) | (leave1; walk_say "STEP leave1"; try dsimp only) | fail "no step")
  k_with "#ite" => (((with_reducible show @ite Prop _ _ _ _); first | (refine PySem.W.ite_pos (by with_reducible assumption) ?_) | (refine PySem.W.ite_neg (by with_reducible assumption) ?_) | (refine PySem.W.ite_isFalse (by with_reducible assumption) ?_) | (with_reducible refine Mine.Internal.iteD1 ?_ ?_; focus (first | omega | k_dec)) | (with_reducible refine Mine.Internal.iteD0 ?_ ?_; focus (first | omega | k_dec)) | (refine PySem.W.ite_pos (by (fail_if_success (with_reducible show _ = true)); first | omega | k_dec) ?_) | (refine PySem.W.ite_neg (by (fail_if_success (with_reducible show ¬ (_ = true))); first | omega | k_dec) ?_)))
  k_with "#ne" => ((refine PySem.W.neN ?_; (try dsimp only); first
  | with_reducible assumption
  | ((with_reducible refine Nat.ne_of_lt ?_); (repeat with_reducible refine Mine.Internal.nzLT ?_); (walk_at "#nz"))
  | ((with_reducible refine Nat.ne_of_gt ?_); (repeat with_reducible refine Mine.Internal.nzLT ?_); (walk_at "#nz"))
  | ((repeat with_reducible refine Mine.Internal.nzSS ?_); (first | with_reducible refine Mine.Internal.nzS0 ?_ | with_reducible refine Mine.Internal.nz0S ?_); (repeat (first | with_reducible exact Nat.le_refl _ | with_reducible refine Mine.Internal.nzLS ?_)); done)
  | (walk_at "#nz")
  | (apply Ne.symm; (walk_at "#nz"))
  | omega))
  k_with "#lia" => lia
  k_with "#skip" => skip
  k_with "#st0" => (first | walk_at "#ite" | dsimp only | walk_at "#base")
  k_with "#st1" => (first | walk_at "#base")
  k_with "#st2" => (first | walk_at "#ite" | walk_at "#base")
  k_with "#st3" => (first | dsimp only | walk_at "#base")
  k_with "#st4" => (first | dsimp only | ((with_reducible show PySem.wpAny _ _ (PySem.exec _ _) _ _ _); k_fold) | walk_at "#base")
  k_with "#c0" => ((case kA => exact rfl); (case kF => exact rfl); (case kK => assumption); (case k1 => k_asm); (case k2 => k_asm); (case k3 => k_asm); (case k4 => k_asm); (case k5 => k_asm); (case k6 => k_is); (case k7 => k_is); (case k8 => ktr_room); (case k9 => exact BindsTo.of_eq rfl); (case c5 => decide); (case kB => exact locs rfl); (case kC1 => assumption); (case kC2 => assumption); (case c2 => exact rfl); (case c3 => exact rfl); (case c4 => exact rfl))
  k_with "#c1" => ((case kA => exact rfl); (case kF => exact rfl); (case kK => assumption); (case k1 => k_asm); (case k2 => k_asm); (case k3 => k_asm); (case k5 => k_asm); (case k6 => k_is); (case k7 => k_is); (case k8 => ktr_room); (case k9 => exact BindsTo.of_eq rfl); (case c5 => decide); (case kB => exact locs rfl); (case c2 => exact rfl); (case c3 => exact rfl); (case c4 => exact rfl))
  k_with "#c2" => ((case kz => exact rfl); (case k1 => k_asm); (case k2 => k_asm); (case k3 => k_asm); (case k4 => k_asm); (case k5 => k_asm); (case k6 => exact rfl); (case k7 => is_list); (case k8 => exact castI (by assumption) hE1); (case k9 => omega); (case k10 => omega); (case k11 => omega); (case k12 => ktr_room); (case k13 => ktr_units))
  k_with "#c3" => ((case k1 => k_asm); (case k2 => k_asm); (case k3 => k_asm); (case k4 => k_asm); (case k5 => k_asm); (case k6 => first | exact rfl | assumption); (case k7 => assumption); (case k8 => ktr_room); (case k9 => ktr_units))
  trivial
local macro_rules | `(tactic| k_ne) => `(tactic| walk_at "#ne")
local macro_rules | `(tactic| k_lt $h:ident) => `(tactic| (replace $h := Mine.Internal.allLt1 $h; dsimp only [Mine.Internal.AllLt1, Mine.Internal.AllLtC] at $h:ident))
local macro_rules | `(tactic| k_steps) => `(tactic| (walk_at "#on"; repeat' (walk_at "#step")))
local macro_rules | `(tactic| omega) => `(tactic| walk_at "#om")

noncomputable section -- FlA
open PySem PySem.Float64
namespace Mine.Internal
noncomputable def Fin (x : UInt64) : Prop := ∃ a m e, decode x = .fin a m e
noncomputable def U : Nat := 2 ^ 1074
theorem U_pos : 0 < U := Nat.two_pow_pos _
noncomputable def rv (x : UInt64) : Rat := (val x : Rat) / (U : Rat)
theorem exV : ∀ (c j : Nat), j ≤ 2 ^ 53 → ∃ t, V t = j * 2 ^ c
  | 0, j, h => ⟨j, by have := V_at (k := 0) (q := j) h (.inr rfl); simpa using this⟩
  | c + 1, j, h => by
    by_cases h1 : 2 ^ 52 ≤ j
    · exact ⟨_, V_at h (.inl h1)⟩
    · obtain ⟨t, ht⟩ := exV c (2 * j) (by omega)
      exact ⟨t, by rw [ht, Nat.pow_succ]; generalize 2 ^ c = p; grind -abstractProof⟩
theorem right_near {r : UInt64} {neg : Bool} {W D : Nat} (c : Nat) (h : Right r neg W D) (hD : 0 < D) (hW : W ≤ D * (2 ^ 53 * 2 ^ c)) (hc : c ≤ 1900) :
    ∃ t, Fin r ∧ val r = sgn neg (V t) ∧ W ≤ D * V t + D * 2 ^ c ∧ D * V t ≤ W + D * 2 ^ c := by
  obtain ⟨t, rfl, h1, h2, h3⟩ := h
  have hne : t ≠ infMag := by
    intro e
    have h4 := h2.mp e
    have h5 : D * (2 ^ 53 * 2 ^ c) ≤ D * (2 ^ 53 * 2 ^ 1900) := Nat.mul_le_mul_left _ (Nat.mul_le_mul_left _ (Nat.pow_le_pow_right (by decide) hc))
    have h6 : D * ((2 ^ 54 - 1) * 2 ^ 2045) ≤ D * (2 * (2 ^ 53 * 2 ^ 1900)) := by
      calc _ ≤ 2 * W := h4
        _ ≤ 2 * (D * (2 ^ 53 * 2 ^ 1900)) := Nat.mul_le_mul_left _ (Nat.le_trans hW h5)
        _ = D * (2 * (2 ^ 53 * 2 ^ 1900)) := by rw [Nat.mul_left_comm]
    have h7 := Nat.le_of_mul_le_mul_left h6 hD
    exact absurd h7 (by decide +kernel)
  have ht : t < infMag := by omega
  obtain ⟨m, e, hd, hv⟩ := decode_pack neg ht
  refine ⟨t, ⟨_, _, _, hd⟩, val_pack neg ht, ?_⟩
  have hp : 0 < 2 ^ c := Nat.two_pow_pos c
  obtain ⟨t', ht'⟩ := exV c (W / (D * 2 ^ c)) (by
    have : W / (D * 2 ^ c) ≤ (2 ^ 53 * (D * 2 ^ c)) / (D * 2 ^ c) := Nat.div_le_div_right (by rw [Nat.mul_left_comm]; exact hW)
    rwa [Nat.mul_div_cancel _ (Nat.mul_pos hD hp)] at this)
  have h8 := (h3 ht t').1
  have h9 := Nat.div_add_mod W (D * 2 ^ c)
  have h10 := Nat.mod_lt W (Nat.mul_pos hD hp)
  have h11 : D * V t' = D * 2 ^ c * (W / (D * 2 ^ c)) := by rw [ht', Nat.mul_comm (W / _), Nat.mul_assoc]
  unfold dist at h8
  rw [h11] at h8
  generalize D * 2 ^ c * (W / (D * 2 ^ c)) = X at *
  generalize W % (D * 2 ^ c) = Y at *
  generalize D * 2 ^ c = Z at *
  generalize D * V t = T at *
  omega
end Mine.Internal
end
noncomputable section -- FlB
open PySem PySem.Float64
namespace Mine.Internal
noncomputable abbrev e0 : Rat := 1 / 2199023255552
noncomputable def Ap (x : UInt64) (q e : Rat) : Prop := Fin x ∧ rv x ≤ q + e ∧ q ≤ rv x + e
structure Grain (J B : Nat) : Prop where
  c : ∃ c, c ≤ 1900 ∧ U = 2 ^ c * J
  b : B * J = 2 ^ 53
  j : 0 < J
theorem grain1 : Grain 2199023255552 4096 := ⟨⟨1033, by decide, by delta U; rw [show (2199023255552 : Nat) = 2 ^ 41 by decide, ← Nat.pow_add]⟩, by decide, by decide⟩
theorem grain2 : Grain 4294967296 2097152 := ⟨⟨1042, by decide, by delta U; rw [show (4294967296 : Nat) = 2 ^ 32 by decide, ← Nat.pow_add]⟩, by decide, by decide⟩
theorem near_of {J B : Nat} (G : Grain J B) {r : UInt64} {neg : Bool} {W D : Nat} {q : Rat} (h : Right r neg W D) (hD : 0 < D) (hq : q * ((U : Rat) * (D : Rat)) = ((sgn neg W : Int) : Rat)) (hb : -(B : Rat) ≤ q ∧ q ≤ (B : Rat)) : Ap r q (1 / (J : Rat)) := by
  obtain ⟨⟨c, hc, hU⟩, hBJ, hJ⟩ := G
  have hJr : (0 : Rat) < (J : Rat) := Rat.natCast_pos.mpr hJ
  have hBr : (B : Rat) * (J : Rat) = 9007199254740992 := by
    have := congrArg (Nat.cast (R := Rat)) hBJ
    rw [Rat.natCast_mul] at this
    rw [this]; decide +kernel
  have hP0 : 0 < 2 ^ c := Nat.two_pow_pos c
  have hrn := fun h2 => right_near c h hD h2 hc
  generalize 2 ^ c = PP at *
  have hUr : (U : Rat) = (PP : Rat) * (J : Rat) := by rw [hU]; push_cast; rfl
  have hPr : (0 : Rat) < (PP : Rat) := Rat.natCast_pos.mpr hP0
  have hDr : (0 : Rat) < (D : Rat) := Rat.natCast_pos.mpr hD
  have hUp : (0 : Rat) < (U : Rat) := Rat.natCast_pos.mpr U_pos
  have hPD : (0 : Rat) < (PP : Rat) * (D : Rat) := Rat.mul_pos hPr hDr
  have hUD : (0 : Rat) < (U : Rat) * (D : Rat) := Rat.mul_pos hUp hDr
  have hW : W ≤ D * (2 ^ 53 * PP) := by
    apply Rat.natCast_le_natCast.mp
    push_cast
    have h1 : (W : Rat) ≤ (B : Rat) * ((U : Rat) * (D : Rat)) := by
      have b1 := Rat.mul_le_mul_of_nonneg_right hb.1 (Rat.le_of_lt hUD)
      have b2 := Rat.mul_le_mul_of_nonneg_right hb.2 (Rat.le_of_lt hUD)
      cases neg
      · have : ((sgn false W : Int) : Rat) = (W : Rat) := by simp [sgn, Rat.intCast_natCast]
        rw [this] at hq
        grind -abstractProof
      · have : ((sgn true W : Int) : Rat) = -(W : Rat) := by simp [sgn, Rat.intCast_natCast]
        rw [this] at hq
        grind -abstractProof
    rw [hUr] at h1
    have h3 : (B : Rat) * ((PP : Rat) * (J : Rat) * (D : Rat)) = 9007199254740992 * ((PP : Rat) * (D : Rat)) := by rw [← hBr]; grind -abstractProof
    rw [h3] at h1
    grind -abstractProof
  obtain ⟨t, hf, hv, h1, h2⟩ := hrn hW
  have h1r : (W : Rat) ≤ (D : Rat) * (V t : Rat) + (D : Rat) * (PP : Rat) := by exact_mod_cast Rat.natCast_le_natCast.mpr h1
  have h2r : (D : Rat) * (V t : Rat) ≤ (W : Rat) + (D : Rat) * (PP : Rat) := by exact_mod_cast Rat.natCast_le_natCast.mpr h2
  have hvr : rv r * (U : Rat) = ((sgn neg (V t) : Int) : Rat) := by
    unfold rv; rw [hv, Rat.div_mul_cancel (Rat.ne_of_gt hUp)]
  have hvr2 : rv r * ((U : Rat) * (D : Rat)) = ((sgn neg (V t) : Int) : Rat) * (D : Rat) := by rw [← hvr]; grind -abstractProof
  have hj : 1 / (J : Rat) * ((U : Rat) * (D : Rat)) = (PP : Rat) * (D : Rat) := by
    rw [hUr]
    have := Rat.div_mul_cancel (a := 1) (Rat.ne_of_gt hJr)
    grind -abstractProof
  generalize 1 / (J : Rat) = ee at *
  refine ⟨hf, ?_, ?_⟩
  · apply Rat.le_of_mul_le_mul_right _ hUD
    cases neg
    · simp only [sgn, if_false, Bool.false_eq_true, Rat.intCast_natCast] at hq hvr2
      grind -abstractProof
    · simp only [sgn, if_true, Rat.intCast_natCast, Rat.intCast_neg] at hq hvr2
      grind -abstractProof
  · apply Rat.le_of_mul_le_mul_right _ hUD
    cases neg
    · simp only [sgn, if_false, Bool.false_eq_true, Rat.intCast_natCast] at hq hvr2
      grind -abstractProof
    · simp only [sgn, if_true, Rat.intCast_natCast, Rat.intCast_neg] at hq hvr2
      grind -abstractProof
end Mine.Internal
end
section
local macro_rules | `(tactic| omega) => `(tactic| lia)
noncomputable section -- FlC
open PySem PySem.Float64
namespace Mine.Internal
theorem U_def : (2 : Nat) ^ 1074 = U := by delta U; exact Eq.refl _
theorem Ur_pos : (0 : Rat) < (U : Rat) := Rat.natCast_pos.mpr U_pos
theorem rv_U (x : UInt64) : rv x * (U : Rat) = (val x : Rat) := by unfold rv; rw [Rat.div_mul_cancel (Rat.ne_of_gt Ur_pos)]
theorem sgn_self (z : Int) : sgn (decide (z < 0)) z.natAbs = z := by
  unfold sgn
  by_cases h : z < 0
  · simp [h]; omega
  · simp [h]; omega
theorem zero_Ap (b : Bool) : Ap (zero b) 0 0 := by
  have ht : 0 < infMag := by decide
  obtain ⟨m, e, hd, hv⟩ := decode_pack b ht
  have h0 : val (zero b) = 0 := by unfold zero; rw [val_pack b ht, V_zero]; cases b <;> rfl
  have h1 : rv (zero b) = 0 := by unfold rv; rw [h0]; simp [Rat.div_def]
  exact ⟨⟨_, _, _, hd⟩, by rw [h1]; grind -abstractProof, by rw [h1]; grind -abstractProof⟩
theorem Ap.mono {x : UInt64} {q e e' : Rat} (h : Ap x q e) (he : e ≤ e') : Ap x q e' := ⟨h.1, by have := h.2.1; grind -abstractProof, by have := h.2.2; grind -abstractProof⟩
theorem Ap.self {x : UInt64} (h : Fin x) : Ap x (rv x) 0 := ⟨h, by grind -abstractProof, by grind -abstractProof⟩
theorem Grain.e {J B : Nat} (G : Grain J B) : (0 : Rat) ≤ 1 / (J : Rat) := by
  have h := Rat.inv_pos.mpr (Rat.natCast_pos.mpr G.j : (0 : Rat) < (J : Rat))
  rw [Rat.div_def, Rat.one_mul]; exact Rat.le_of_lt h
theorem addG {J B : Nat} (G : Grain J B) {x y : UInt64} (hx : Fin x) (hy : Fin y) (hb : -(B : Rat) ≤ rv x + rv y ∧ rv x + rv y ≤ (B : Rat)) : Ap (add x y) (rv x + rv y) (1 / (J : Rat)) := by
  obtain ⟨a, m, e, hx⟩ := hx
  obtain ⟨b, k, f, hy⟩ := hy
  obtain ⟨h1, h2⟩ := add_right hx hy
  have hq : (rv x + rv y) * (U : Rat) = ((val x + val y : Int) : Rat) := by rw [Rat.add_mul, rv_U, rv_U, Rat.intCast_add]
  by_cases h0 : val x + val y = 0
  · rw [h1 h0]
    rw [h0] at hq
    have hz : rv x + rv y = 0 := by
      have := Rat.mul_eq_zero.mp hq
      rcases this with h | h
      · exact h
      · exact absurd h (Rat.ne_of_gt Ur_pos)
    rw [hz]
    exact (zero_Ap _).mono G.e
  · refine near_of G (h2 h0) (by decide) ?_ hb
    rw [sgn_self, ← hq]
    simp
theorem grain1_e : (1 : Rat) / ((2199023255552 : Nat) : Rat) = e0 := by decide +kernel
theorem addR {x y : UInt64} (hx : Fin x) (hy : Fin y) (hb : -4096 ≤ rv x + rv y ∧ rv x + rv y ≤ 4096) : Ap (add x y) (rv x + rv y) e0 := by
  rw [← grain1_e]; exact addG grain1 hx hy hb
theorem neg_Fin {y : UInt64} (hy : Fin y) : Fin (neg y) ∧ rv (neg y) = - rv y := by
  obtain ⟨b, k, f, hy⟩ := hy
  refine ⟨⟨_, _, _, neg_decode hy⟩, ?_⟩
  unfold rv
  rw [neg_val hy]
  simp only [Rat.intCast_neg, Rat.div_def, Rat.neg_mul]
theorem subR {x y : UInt64} (hx : Fin x) (hy : Fin y) (hb : -4096 ≤ rv x - rv y ∧ rv x - rv y ≤ 4096) : Ap (sub x y) (rv x - rv y) e0 := by
  have h := neg_Fin hy
  have := addR hx h.1 (by rw [h.2, ← Rat.sub_eq_add_neg]; exact hb)
  rw [h.2, ← Rat.sub_eq_add_neg] at this
  have e : Float64.sub x y = Float64.add x (Float64.neg y) := by unfold Float64.sub; rfl
  rw [e]
  exact this
theorem sgn_neg_mul (a b : Bool) (m k : Nat) : sgn (a != b) (m * k) = sgn a m * sgn b k := by
  unfold sgn
  cases a <;> cases b <;> simp [Int.mul_neg, Int.neg_mul]
theorem val_sgn {x : UInt64} {a : Bool} {m : Nat} {e : Int} (h : decode x = .fin a m e) : sgn a (val x).natAbs = val x := by
  rw [val_natAbs h, val_eq h]
theorem mulG {J B : Nat} (G : Grain J B) {x y : UInt64} (hx : Fin x) (hy : Fin y) (hb : -(B : Rat) ≤ rv x * rv y ∧ rv x * rv y ≤ (B : Rat)) : Ap (mul x y) (rv x * rv y) (1 / (J : Rat)) := by
  obtain ⟨a, m, e, hx⟩ := hx
  obtain ⟨b, k, f, hy⟩ := hy
  have h := mul_right hx hy
  rw [U_def] at h
  refine near_of G h U_pos ?_ hb
  rw [sgn_neg_mul, val_sgn hx, val_sgn hy, Rat.intCast_mul, ← rv_U, ← rv_U]
  grind -abstractProof
theorem mulR {x y : UInt64} (hx : Fin x) (hy : Fin y) (hb : -4096 ≤ rv x * rv y ∧ rv x * rv y ≤ 4096) : Ap (mul x y) (rv x * rv y) e0 := by
  rw [← grain1_e]; exact mulG grain1 hx hy hb
theorem divR {x y : UInt64} (hx : Fin x) (hy : Fin y) (h0 : rv y ≠ 0) (hb : -4096 ≤ rv x / rv y ∧ rv x / rv y ≤ 4096) : Ap (div x y) (rv x / rv y) e0 := by
  rw [← grain1_e]
  have G := grain1
  obtain ⟨a, m, e, hx⟩ := hx
  obtain ⟨b, k, f, hy⟩ := hy
  have hv : val y ≠ 0 := by
    intro h
    have := rv_U y
    rw [h] at this
    rcases Rat.mul_eq_zero.mp this with h | h
    · exact h0 h
    · exact absurd h (Rat.ne_of_gt Ur_pos)
  have hk : k ≠ 0 := by
    intro h
    have := val_natAbs hy
    rw [h] at this
    simp at this
    exact hv this
  have h := div_right hx hy hk
  rw [U_def] at h
  refine near_of G h (by omega) ?_ hb
  have e1 : ((sgn (a != b) ((val x).natAbs * U) : Int) : Rat) = ((sgn a (val x).natAbs : Int) : Rat) * (U : Rat) * ((sgn b 1 : Int) : Rat) := by
    have : sgn (a != b) ((val x).natAbs * U) = sgn a (val x).natAbs * sgn b 1 * (U : Int) := by
      rw [← sgn_neg_mul, ← sgn_mul, Nat.mul_one]
    rw [this]; push_cast; (try simp only [Rat.intCast_natCast]); grind -abstractProof
  rw [e1, val_sgn hx, ← rv_U x]
  have e2 : (((val y).natAbs : Nat) : Rat) = ((sgn b 1 : Int) : Rat) * (val y : Rat) := by
    have : (((val y).natAbs : Nat) : Int) = sgn b 1 * val y := by
      have h1 := val_sgn hy
      unfold sgn at h1 ⊢
      cases b
      · simp at h1 ⊢; omega
      · simp at h1 ⊢; omega
    rw [← Rat.intCast_natCast, this, Rat.intCast_mul]
  rw [e2, ← rv_U y]
  have e3 : rv x / rv y * rv y = rv x := Rat.div_mul_cancel h0
  grind -abstractProof
theorem intG {J B : Nat} (G : Grain J B) (i : Int) (hb : -(B : Int) ≤ i ∧ i ≤ (B : Int)) : Ap (ofInt i) (i : Rat) (1 / (J : Rat)) := by
  have h := ofInt_right i
  rw [U_def] at h
  refine near_of G h (by decide) ?_ ⟨?_, ?_⟩
  · have : sgn (decide (i < 0)) (i.natAbs * U) = i * (U : Int) := by rw [sgn_mul, sgn_self]
    rw [this]; push_cast; (try simp only [Rat.intCast_natCast]); grind -abstractProof
  · have := Rat.intCast_le_intCast.mpr hb.1; rwa [Rat.intCast_neg, Rat.intCast_natCast] at this
  · have := Rat.intCast_le_intCast.mpr hb.2; rwa [Rat.intCast_natCast] at this
theorem intR (i : Int) (hb : -4096 ≤ i ∧ i ≤ 4096) : Ap (ofInt i) (i : Rat) e0 := by
  rw [← grain1_e]; exact intG grain1 i hb
theorem divIR (i : Int) (d : Nat) (hd : 0 < d) (hb : -(4096 * (d : Int)) ≤ i ∧ i ≤ 4096 * (d : Int)) : Ap (ofFrac (decide (i < 0) != false) i.natAbs d) ((i : Rat) / (d : Rat)) e0 := by
  have h : Right (ofFrac (decide (i < 0) != false) i.natAbs d) (decide (i < 0) != false) (i.natAbs * U) d := ofFrac_right hd (by rw [U_def]) hd
  have hdr : (0 : Rat) < (d : Rat) := Rat.natCast_pos.mpr hd
  have hq : (i : Rat) / (d : Rat) * (d : Rat) = (i : Rat) := Rat.div_mul_cancel (Rat.ne_of_gt hdr)
  rw [← grain1_e]
  refine near_of grain1 h hd ?_ ⟨?_, ?_⟩
  · have : sgn (decide (i < 0) != false) (i.natAbs * U) = i * (U : Int) := by rw [Bool.bne_false, sgn_mul, sgn_self]
    rw [this]; push_cast; (try simp only [Rat.intCast_natCast]); grind -abstractProof
  · apply Rat.le_of_mul_le_mul_right _ hdr
    rw [hq]
    have := Rat.intCast_le_intCast.mpr hb.1
    push_cast at this ⊢; grind -abstractProof
  · apply Rat.le_of_mul_le_mul_right _ hdr
    rw [hq]
    have := Rat.intCast_le_intCast.mpr hb.2
    push_cast at this ⊢; grind -abstractProof
end Mine.Internal
end
noncomputable section -- FlD
open PySem PySem.Float64
namespace Mine.Internal
theorem cmp_val {x y : UInt64} (hx : Fin x) (hy : Fin y) : cmp x y = some (compare (val x) (val y)) := by
  obtain ⟨a, m, e, hx⟩ := hx
  obtain ⟨b, k, f, hy⟩ := hy
  exact cmp_right hx hy
theorem val_lt {x y : UInt64} : val x < val y ↔ rv x < rv y := by
  rw [← Rat.intCast_lt_intCast, ← rv_U, ← rv_U, Rat.mul_lt_mul_right Ur_pos]
theorem val_eq' {x y : UInt64} : val x = val y ↔ rv x = rv y := by
  constructor
  · intro h; unfold rv; rw [h]
  · intro h; apply Rat.intCast_inj.mp; rw [← rv_U, ← rv_U, h]
theorem lt_iff {x y : UInt64} (hx : Fin x) (hy : Fin y) : (cmp x y == some Ordering.lt) = true ↔ rv x < rv y := by
  rw [cmp_val hx hy, ← val_lt]
  simp [Int.compare_eq_lt]
theorem eq_iff {x y : UInt64} (hx : Fin x) (hy : Fin y) : (cmp x y == some Ordering.eq) = true ↔ rv x = rv y := by
  rw [cmp_val hx hy, ← val_eq']
  simp
theorem fin_isFinite {x : UInt64} (h : Fin x) : isFinite x = true := by
  obtain ⟨a, m, e, h⟩ := h
  unfold isFinite; rw [h]
theorem isZero_iff {x : UInt64} (h : Fin x) : isZero x = true ↔ rv x = 0 := by
  obtain ⟨a, m, e, h⟩ := h
  have h1 : isZero x = true ↔ m = 0 := by
    unfold isZero; rw [h]
    cases m with
    | zero => simp
    | succ n => simp
  rw [h1]
  have h2 := val_natAbs h
  have h3 := rv_U x
  have hp := Nat.two_pow_pos (e + 1074).toNat
  constructor
  · intro hm; rw [hm] at h2; simp at h2; rw [h2] at h3
    rcases Rat.mul_eq_zero.mp h3 with h | h
    · exact h
    · exact absurd h (Rat.ne_of_gt Ur_pos)
  · intro hr; rw [hr] at h3
    have : val x = 0 := by apply Rat.intCast_inj.mp; rw [← h3]; grind -abstractProof
    rw [this] at h2
    rcases Nat.mul_eq_zero.mp (h2.symm : m * _ = 0) with h | h
    · exact h
    · omega
theorem rv_of {x : UInt64} {a : Bool} {m k : Nat} (h : decode x = .fin a m (-(k : Int))) (hk : k ≤ 1074) : Fin x ∧ rv x * ((2 ^ k : Nat) : Rat) = ((sgn a m : Int) : Rat) := by
  refine ⟨⟨_, _, _, h⟩, ?_⟩
  have h1 := val_eq h
  rw [sgn_mul] at h1
  have e1 : (-(k : Int) + 1074).toNat = 1074 - k := by omega
  rw [e1] at h1
  have e2 : 2 ^ (1074 - k) * 2 ^ k = U := by rw [← Nat.pow_add, ← U_def]; congr 1; omega
  have h3 := rv_U x
  rw [h1, ← e2] at h3
  have hp : (0 : Rat) < ((2 ^ (1074 - k) : Nat) : Rat) := Rat.natCast_pos.mpr (Nat.two_pow_pos _)
  generalize (2 ^ (1074 - k) : Nat) = P at *
  generalize (2 ^ k : Nat) = K at *
  push_cast at h3
  have h4 : (rv x * (K : Rat) - ((sgn a m : Int) : Rat)) * (P : Rat) = 0 := by
    have : ((((P : Nat) : Int)) : Rat) = (P : Rat) := Rat.intCast_natCast _
    grind -abstractProof
  rcases Rat.mul_eq_zero.mp h4 with h | h
  · grind -abstractProof
  · exact absurd h (Rat.ne_of_gt hp)
theorem rv_sgn {x : UInt64} {a : Bool} {m : Nat} {e : Int} (h : decode x = .fin a m e) : rv x * (U : Rat) = ((sgn a 1 : Int) : Rat) * (m : Rat) * ((2 ^ (e + 1074).toNat : Nat) : Rat) := by
  rw [rv_U, val_eq h, show m * 2 ^ (e + 1074).toNat = 1 * (m * 2 ^ (e + 1074).toNat) by rw [Nat.one_mul], sgn_mul]
  push_cast
  grind -abstractProof
theorem truncR {x : UInt64} (hx : Fin x) (h0 : 0 ≤ rv x) : (((Flt.toInt truncOf x : Int)) : Rat) ≤ rv x ∧ rv x < ((Flt.toInt truncOf x : Int) : Rat) + 1 := by
  obtain ⟨a, m, e, hx⟩ := hx
  have hge := decode_ge hx
  rw [Flt.toInt_fin hx]
  have hs := rv_sgn hx
  have key : truncOf a m e = (if e ≥ 0 then (m : Int) * 2 ^ e.toNat else (m : Int) / (2 ^ (-e).toNat)) := by
    unfold truncOf
    cases a
    · simp only [Bool.false_eq_true, if_false, floorOf, sgn]
      split
      · rfl
      · exact Int.fdiv_eq_ediv_of_nonneg _ (by exact_mod_cast Nat.zero_le _)
    · have hm : m = 0 := by
        have h1 := val_natAbs hx
        have h2 := val_sgn hx
        by_cases hm : m = 0
        · exact hm
        · exfalso
          have h3 : 0 < m * 2 ^ (e + 1074).toNat := Nat.mul_pos (by omega) (Nat.two_pow_pos _)
          have h4 : val x < 0 := by unfold sgn at h2; simp at h2; omega
          have h5 : rv x * (U : Rat) < 0 := by rw [rv_U]; exact_mod_cast h4
          have h6 := Rat.mul_nonneg h0 (Rat.le_of_lt Ur_pos)
          grind -abstractProof
      subst hm
      simp [ceilOf, floorOf, sgn]
  rw [key]
  have hs1 : rv x * (U : Rat) = (m : Rat) * ((2 ^ (e + 1074).toNat : Nat) : Rat) := by
    cases a
    · rw [hs]; simp [sgn]
    · have h1 := val_natAbs hx
      have h2 := val_sgn hx
      by_cases hm : m = 0
      · subst hm; rw [hs]; simp
      · exfalso
        have h3 : 0 < m * 2 ^ (e + 1074).toNat := Nat.mul_pos (by omega) (Nat.two_pow_pos _)
        have h4 : val x < 0 := by unfold sgn at h2; simp at h2; omega
        have h5 : rv x * (U : Rat) < 0 := by rw [rv_U]; exact_mod_cast h4
        have h6 := Rat.mul_nonneg h0 (Rat.le_of_lt Ur_pos)
        grind -abstractProof
  split
  · rename_i h
    have e1 : (e + 1074).toNat = e.toNat + 1074 := by omega
    rw [e1, Nat.pow_add, U_def] at hs1
    have e2 : ((((m : Int) * 2 ^ e.toNat : Int)) : Rat) = (m : Rat) * ((2 ^ e.toNat : Nat) : Rat) := by
      push_cast; rfl
    rw [e2]
    generalize (2 ^ e.toNat : Nat) = P at *
    have h4 : (rv x - (m : Rat) * (P : Rat)) * (U : Rat) = 0 := by push_cast at hs1; grind -abstractProof
    rcases Rat.mul_eq_zero.mp h4 with h | h
    · constructor <;> grind -abstractProof
    · exact absurd h (Rat.ne_of_gt Ur_pos)
  · rename_i h
    have e1 : 2 ^ (e + 1074).toNat * 2 ^ (-e).toNat = U := by rw [← Nat.pow_add, ← U_def]; congr 1; omega
    rw [← e1] at hs1
    have hp : (0 : Rat) < ((2 ^ (e + 1074).toNat : Nat) : Rat) := Rat.natCast_pos.mpr (Nat.two_pow_pos _)
    have hP0 : 0 < 2 ^ (-e).toNat := Nat.two_pow_pos _
    have e3 : ((m : Int) / 2 ^ (-e).toNat) = (((m / 2 ^ (-e).toNat : Nat)) : Int) := by push_cast; rfl
    rw [e3]
    generalize (2 ^ (e + 1074).toNat : Nat) = P at *
    generalize (2 ^ (-e).toNat : Nat) = K at *
    have h4 : rv x * (K : Rat) = (m : Rat) := by
      have h5 : (rv x * (K : Rat) - (m : Rat)) * (P : Rat) = 0 := by push_cast at hs1; grind -abstractProof
      rcases Rat.mul_eq_zero.mp h5 with h | h
      · grind -abstractProof
      · exact absurd h (Rat.ne_of_gt hp)
    have hK : (0 : Rat) < (K : Rat) := Rat.natCast_pos.mpr hP0
    have d1 := Nat.div_add_mod m K
    have d2 := Nat.mod_lt m hP0
    have d3 : (m : Rat) = (K : Rat) * ((m / K : Nat) : Rat) + ((m % K : Nat) : Rat) := by exact_mod_cast congrArg (Nat.cast (R := Rat)) d1.symm
    have d4 : ((m % K : Nat) : Rat) < (K : Rat) := Rat.natCast_lt_natCast.mpr d2
    have d5 : (0 : Rat) ≤ ((m % K : Nat) : Rat) := Rat.natCast_nonneg
    rw [Rat.intCast_natCast]
    constructor
    · apply Rat.le_of_mul_le_mul_right _ hK; grind -abstractProof
    · apply (Rat.mul_lt_mul_right hK).mp; grind -abstractProof
end Mine.Internal
end
end
noncomputable section -- FlE
open PySem PySem.Float64
namespace Mine.Internal
theorem one_dec : decode 4607182418800017408 = .fin false (2 ^ 52) (-52) := by kernel_rfl
theorem fmodR {x : UInt64} (hx : Fin x) : ∃ n : Int, Ap (fmod x 4607182418800017408) (rv x - (n : Rat)) e0 ∧ -1 ≤ rv x - (n : Rat) ∧ rv x - (n : Rat) ≤ 1 := by
  obtain ⟨a, m, e, hx⟩ := hx
  have hge := decode_ge hx
  have hM : ∃ M g, fmod x 4607182418800017408 = ofBin a M g ∧ -1074 ≤ g ∧ M * 2 ^ (g + 1074).toNat = (val x).natAbs % U := by
    refine ⟨(m * 2 ^ (e - min e (-52)).toNat) % (2 ^ 52 * 2 ^ (-52 - min e (-52)).toNat), min e (-52), ?_, by omega, ?_⟩
    · unfold fmod
      rw [hx, one_dec]
      rfl
    · rw [val_natAbs hx, ← Nat.mul_mod_mul_right]
      have e1 : (e - min e (-52)).toNat + (min e (-52) + 1074).toNat = (e + 1074).toNat := by omega
      have e2 : 52 + (-52 - min e (-52)).toNat + (min e (-52) + 1074).toNat = 1074 := by omega
      rw [Nat.mul_assoc, ← Nat.pow_add, e1, ← Nat.pow_add, ← Nat.pow_add, e2, U_def]
  obtain ⟨M, g, hf, hg, hM⟩ := hM
  have hR := ofBin_right (neg := a) (M := M) hg
  rw [← hf, hM] at hR
  have d1 := Nat.div_add_mod (val x).natAbs U
  have d2 := Nat.mod_lt (val x).natAbs U_pos
  have hs := val_sgn hx
  have hr := rv_U x
  have hq : (rv x - ((sgn a ((val x).natAbs / U) : Int) : Rat)) * (U : Rat) = ((sgn a ((val x).natAbs % U) : Int) : Rat) := by
    have h1 : sgn a ((val x).natAbs % U) = val x - sgn a ((val x).natAbs / U) * (U : Int) := by
      generalize hN : (val x).natAbs = N at *
      generalize hA : N / U = A at *
      generalize hB : N % U = B at *
      rw [← hs, ← d1]
      unfold sgn
      cases a
      · simp; grind -abstractProof
      · simp; grind -abstractProof
    rw [h1]; push_cast; grind -abstractProof
  have hb : -1 ≤ rv x - ((sgn a ((val x).natAbs / U) : Int) : Rat) ∧ rv x - ((sgn a ((val x).natAbs / U) : Int) : Rat) ≤ 1 := by
    have h3 : (((val x).natAbs % U : Nat) : Rat) ≤ (U : Rat) := Rat.natCast_le_natCast.mpr (Nat.le_of_lt d2)
    have h4 : (0 : Rat) ≤ (((val x).natAbs % U : Nat) : Rat) := Rat.natCast_nonneg
    have h5 : ((sgn a ((val x).natAbs % U) : Int) : Rat) ≤ (U : Rat) ∧ -(U : Rat) ≤ ((sgn a ((val x).natAbs % U) : Int) : Rat) := by
      cases a
      · simp only [sgn, Bool.false_eq_true, if_false, Rat.intCast_natCast]; constructor <;> grind -abstractProof
      · simp only [sgn, if_true, Rat.intCast_neg, Rat.intCast_natCast]; constructor <;> grind -abstractProof
    constructor
    · apply Rat.le_of_mul_le_mul_right _ Ur_pos; grind -abstractProof
    · apply Rat.le_of_mul_le_mul_right _ Ur_pos; grind -abstractProof
  refine ⟨_, ?_, hb⟩
  rw [← grain1_e]
  refine near_of grain1 hR (by decide) ?_ ⟨?_, ?_⟩
  · rw [← hq, show ((1 : Nat) : Rat) = 1 from rfl, Rat.mul_one]
  · have := hb.1; rw [show ((4096 : Nat) : Rat) = 4096 from rfl]; grind -abstractProof
  · have := hb.2; rw [show ((4096 : Nat) : Rat) = 4096 from rfl]; grind -abstractProof
theorem one_rv : Fin 4607182418800017408 ∧ rv 4607182418800017408 = 1 := by
  have h := rv_of (k := 52) one_dec (by decide)
  refine ⟨h.1, ?_⟩
  have := h.2
  rw [show ((2 ^ 52 : Nat) : Rat) = 4503599627370496 by decide +kernel, show ((sgn false (2 ^ 52) : Int) : Rat) = 4503599627370496 by decide +kernel] at this
  grind -abstractProof
theorem zero_rv (b : Bool) : Fin (zero b) ∧ rv (zero b) = 0 := by
  have h := zero_Ap b
  exact ⟨h.1, by have h1 := h.2.1; have h2 := h.2.2; grind -abstractProof⟩
theorem modR {x : UInt64} (hx : Fin x) : ∃ n : Int, Ap (divmod x 4607182418800017408).snd (rv x - (n : Rat)) (2 * e0) ∧ -(2 * e0) ≤ rv (divmod x 4607182418800017408).snd ∧ rv (divmod x 4607182418800017408).snd ≤ 1 + 2 * e0 := by
  obtain ⟨n, ⟨hf, h1, h2⟩, hb1, hb2⟩ := fmodR hx
  have hz := zero_rv false
  have ho := one_rv
  have hlt : ∀ y, Fin y → (lt y (zero false) = true ↔ rv y < 0) := fun y hy => by
    unfold lt; rw [lt_iff hy hz.1, hz.2]
  have hl1 : lt 4607182418800017408 (zero false) = false := by decide +kernel
  have hsnd : (divmod x 4607182418800017408).snd = if isZero (fmod x 4607182418800017408) then copysign (zero false) 4607182418800017408 else if lt (fmod x 4607182418800017408) (zero false) then add (fmod x 4607182418800017408) 4607182418800017408 else fmod x 4607182418800017408 := by
    unfold divmod
    rw [hl1]
    dsimp only
    split
    · rfl
    · cases lt (fmod x 4607182418800017408) (zero false) <;> rfl
  rw [hsnd]
  generalize fmod x 4607182418800017408 = y at *
  have he : e0 = 1 / 2199023255552 := rfl
  by_cases c1 : isZero y = true
  · rw [if_pos c1]
    have hy := (isZero_iff hf).mp c1
    have ec : copysign (zero false) 4607182418800017408 = zero false := by decide +kernel
    rw [ec]
    refine ⟨n, ⟨hz.1, ?_, ?_⟩, ?_, ?_⟩ <;> rw [hz.2] <;> grind -abstractProof
  · rw [if_neg c1]
    by_cases c2 : lt y (zero false) = true
    · rw [if_pos c2]
      have hy := (hlt y hf).mp c2
      have ha := addR hf ho.1 (by rw [ho.2]; constructor <;> grind -abstractProof)
      rw [ho.2] at ha
      obtain ⟨a1, a2, a3⟩ := ha
      refine ⟨n - 1, ⟨a1, ?_, ?_⟩, ?_, ?_⟩ <;> push_cast <;> grind -abstractProof
    · rw [if_neg c2]
      have hy : ¬ rv y < 0 := fun h => c2 ((hlt y hf).mpr h)
      refine ⟨n, ⟨hf, ?_, ?_⟩, ?_, ?_⟩ <;> grind -abstractProof
end Mine.Internal
end
noncomputable section -- FlF
open PySem PySem.Float64
namespace Mine.Internal
theorem constR {x : UInt64} {m k : Nat} (h : decode x = .fin false m (-(k : Int))) (hk : k ≤ 1074) (q : Rat) (hq : q * ((2 ^ k : Nat) : Rat) = (m : Rat)) : Fin x ∧ rv x = q := by
  have h1 := rv_of h hk
  refine ⟨h1.1, ?_⟩
  have h2 : rv x * ((2 ^ k : Nat) : Rat) = q * ((2 ^ k : Nat) : Rat) := by
    rw [h1.2, hq]; simp [sgn, Rat.intCast_natCast]
  have hp : (0 : Rat) < ((2 ^ k : Nat) : Rat) := Rat.natCast_pos.mpr (Nat.two_pow_pos _)
  generalize ((2 ^ k : Nat) : Rat) = K at *
  have h4 : (rv x - q) * K = 0 := by grind -abstractProof
  rcases Rat.mul_eq_zero.mp h4 with h | h
  · grind -abstractProof
  · exact absurd h (Rat.ne_of_gt hp)
theorem c6 : Fin 4618441417868443648 ∧ rv 4618441417868443648 = 6 := constR (m := 6755399441055744) (k := 50) (by kernel_rfl) (by decide) _ (by decide +kernel)
theorem c2 : Fin 4611686018427387904 ∧ rv 4611686018427387904 = 2 := constR (m := 4503599627370496) (k := 51) (by kernel_rfl) (by decide) _ (by decide +kernel)
theorem c4 : Fin 4616189618054758400 ∧ rv 4616189618054758400 = 4 := constR (m := 4503599627370496) (k := 50) (by kernel_rfl) (by decide) _ (by decide +kernel)
theorem ch : Fin 4602678819172646912 ∧ rv 4602678819172646912 = 1 / 2 := constR (m := 4503599627370496) (k := 53) (by kernel_rfl) (by decide) _ (by decide +kernel)
theorem c0 : Fin 0 ∧ rv 0 = 0 := constR (m := 0) (k := 1074) (by kernel_rfl) (by decide) _ (by decide +kernel)
theorem c16 : Fin 4595172819793696085 ∧ rv 4595172819793696085 = 6004799503160661 / 36028797018963968 := constR (m := 6004799503160661) (k := 55) (by kernel_rfl) (by decide) _ (by decide +kernel)
theorem c13 : Fin 4599676419421066581 ∧ rv 4599676419421066581 = 6004799503160661 / 18014398509481984 := constR (m := 6004799503160661) (k := 54) (by kernel_rfl) (by decide) _ (by decide +kernel)
theorem c23 : Fin 4604180019048437077 ∧ rv 4604180019048437077 = 6004799503160661 / 9007199254740992 := constR (m := 6004799503160661) (k := 53) (by kernel_rfl) (by decide) _ (by decide +kernel)
theorem cmil : Fin 4562254508917369340 ∧ rv 4562254508917369340 = 1152921504606847 / 1152921504606846976 := constR (m := 4611686018427388) (k := 62) (by kernel_rfl) (by decide) _ (by decide +kernel)
theorem castL {a b : Int} {q : Rat} (e : (a : Rat) = q) (h : a ≤ b) : q ≤ (b : Rat) := e ▸ Rat.intCast_le_intCast.mpr h
theorem castR {a b : Int} {q : Rat} (e : (b : Rat) = q) (h : a ≤ b) : (a : Rat) ≤ q := e ▸ Rat.intCast_le_intCast.mpr h
theorem castS {a b : Int} (h : (a : Rat) < (b : Rat) + 1) : a < b + 1 := by exact_mod_cast h
theorem posT {t : Rat} (h : 1 ≤ t) : 0 < t := by grind -abstractProof
theorem minK {sh lt : Int} (h1 : 1 ≤ sh) (h2 : sh ≤ 8) (h3 : 1 ≤ lt) (h4 : lt ≤ 7) : 1 ≤ sh * min lt (8 - lt) ∧ sh * min lt (8 - lt) ≤ 32 ∧ sh * min lt (8 - lt) ≤ 8 * lt ∧ sh * min lt (8 - lt) ≤ 64 - 8 * lt := by
  have hm : 1 ≤ min lt (8 - lt) ∧ min lt (8 - lt) ≤ 4 ∧ min lt (8 - lt) ≤ lt ∧ min lt (8 - lt) ≤ 8 - lt := by omega
  generalize min lt (8 - lt) = q at *
  have a := Int.mul_le_mul h1 hm.1 (by decide) (Int.le_trans (by decide) h1)
  have b := fun z (hz : q ≤ z) => Int.mul_le_mul h2 hz (Int.le_trans (by decide) hm.1) (by decide)
  exact ⟨a, b 4 hm.2.1, b lt hm.2.2.1, Int.le_trans (b (8 - lt) hm.2.2.2) (Int.le_of_eq (Int.mul_sub 8 8 lt))⟩
theorem rng8 {x : Int} (h1 : 1 ≤ x) (h2 : x ≤ 8) : -(4096 * 8) ≤ x ∧ x ≤ 4096 * 8 := ⟨Int.le_trans (by decide) h1, Int.le_trans h2 (by decide)⟩
theorem subB {x q e : Rat} (h1 : x ≤ q + e) (h2 : q ≤ x + e) : -e ≤ x - q ∧ x - q ≤ e := ⟨by grind -abstractProof, by grind -abstractProof⟩
theorem t60 {t : Rat} (h1 : 1 ≤ t) (h2 : t ≤ 60) : -60 ≤ t ∧ t ≤ 60 := ⟨by grind -abstractProof, by grind -abstractProof⟩
theorem mulB {a b A B : Rat} (ha : -A ≤ a ∧ a ≤ A) (hb : -B ≤ b ∧ b ≤ B) : -(A * B) ≤ a * b ∧ a * b ≤ A * B := by
  have hA : 0 ≤ A := by grind -abstractProof
  have h1 := Rat.mul_nonneg (show 0 ≤ A - a by grind -abstractProof) (show 0 ≤ B - b by grind -abstractProof)
  have h2 := Rat.mul_nonneg (show 0 ≤ A + a by grind -abstractProof) (show 0 ≤ B + b by grind -abstractProof)
  have h3 := Rat.mul_nonneg (show 0 ≤ A - a by grind -abstractProof) (show 0 ≤ B + b by grind -abstractProof)
  have h4 := Rat.mul_nonneg (show 0 ≤ A + a by grind -abstractProof) (show 0 ≤ B - b by grind -abstractProof)
  constructor <;> grind -abstractProof
section
variable {x y a b c d lo hi e : Rat}
theorem inRng (h : a ≤ x ∧ x ≤ b) (p : lo ≤ a) (q : b ≤ hi) : lo ≤ x ∧ x ≤ hi := ⟨Rat.le_trans p h.1, Rat.le_trans h.2 q⟩
theorem bAdd (h : a ≤ x ∧ x ≤ b) (k : c ≤ y ∧ y ≤ d) : a + c ≤ x + y ∧ x + y ≤ b + d := ⟨by grind -abstractProof, by grind -abstractProof⟩
theorem bSub (h : a ≤ x ∧ x ≤ b) (k : c ≤ y ∧ y ≤ d) : a - d ≤ x - y ∧ x - y ≤ b - c := ⟨by grind -abstractProof, by grind -abstractProof⟩
theorem bNeg (h : a ≤ x ∧ x ≤ b) : -b ≤ -x ∧ -x ≤ -a := ⟨by grind -abstractProof, by grind -abstractProof⟩
noncomputable def mg (a b : Rat) : Rat := (if a < 0 then -a else a) + (if b < 0 then -b else b)
theorem mg_le (h : a ≤ x ∧ x ≤ b) : -(mg a b) ≤ x ∧ x ≤ mg a b := by
  unfold mg
  split <;> split <;> constructor <;> grind -abstractProof
theorem bMul (h : a ≤ x ∧ x ≤ b) (k : c ≤ y ∧ y ≤ d) : -(mg a b * mg c d) ≤ x * y ∧ x * y ≤ mg a b * mg c d := mulB (mg_le h) (mg_le k)
theorem e0_1 : e0 ≤ 1 := by decide +kernel
theorem bAp (h1 : x ≤ y + e0) (h2 : y ≤ x + e0) (k : a ≤ y ∧ y ≤ b) : a - 1 ≤ x ∧ x ≤ b + 1 := by
  have := e0_1; exact ⟨by grind -abstractProof, by grind -abstractProof⟩
theorem bE0 : 0 ≤ e0 ∧ e0 ≤ 1 := ⟨by decide +kernel, e0_1⟩
theorem bLit {n : Nat} [OfNat Rat n] : (OfNat.ofNat n : Rat) ≤ (OfNat.ofNat n : Rat) ∧ (OfNat.ofNat n : Rat) ≤ (OfNat.ofNat n : Rat) := ⟨Rat.le_refl, Rat.le_refl⟩
theorem bRfl : x ≤ x ∧ x ≤ x := ⟨Rat.le_refl, Rat.le_refl⟩
end
end Mine.Internal
end
noncomputable section -- KTop1
theorem Mine.Internal.wTopOff3 : True := by w_top off; trivial
open PySem PySem.W PyProof.Rows
set_option Elab.async false
set_option maxRecDepth 100000
set_option maxHeartbeats 8000000
namespace Mine.Internal
theorem two {a b c : Prop} (_ : a) (_ : b) (m : c) (_ : a) (_ : b) : c := m
noncomputable def hd : Σ' (Lf T : Prop), PySem.Challenge.rw_pe0263_01.wellSaid = true → Lf → T → PySem.Challenge.rw_pe0263_01.Holds := ⟨_, _, by
  intro said left walk
  w_on
  refine holds_law said fun _ => ?_
  refine two left walk ?main ?hl ?hc
  rotate_left
  exact left
  exact walk
  k_head
  case hw => w_witness2⟩
end Mine.Internal
end
noncomputable section -- Ctr
open PySem PySem.W PyProof.Rows
namespace Mine.Internal
noncomputable abbrev P0 : Program := PySem.Challenge.rw_pe0263_01.row.prog
noncomputable abbrev LS : List Str := looseW hd.view_1 [Str.ofString "ONE_THIRD", Str.ofString "ONE_SIXTH", Str.ofString "TWO_THIRD", Str.ofString "Whitespace"] ++ List.map (fun x => x.name) (recsOf hd.view_1) ++ List.map (fun x => x.fst) (litsOf hd.view_1) ++ List.map (fun x => x.name) (clssOf hd.view_1 (looseW hd.view_1 [Str.ofString "ONE_THIRD", Str.ofString "ONE_SIXTH", Str.ofString "TWO_THIRD", Str.ofString "Whitespace"]))
noncomputable abbrev Ctr (w : World) (kd ku : Nat) (f : Addr) (news : List (Addr × Obj)) (vs : List Value) (pre : Prop) (Ret : Heap → Addr → (Str → Option Value) → Shared → (Value → Shared → Prop) → Prop) : Prop :=
  ∀ (mean : ExcName → Option Value) (mg mb : Str → Option Value) (dp un : Nat) (gd : Option (List Code)) (cn : Str) (cs : Scope) (a : Addr) (ccd : Value) (cl : List (Str × Addr)) (outer : List Env) (A₀ : Around) (base h₀ : Heap) (L : Addr) (m : Str → Option Value) (s : Shared) (Q E : Value → Shared → Prop),
    Below A₀ base outer h₀ → Fr h₀ L s.heap m → (hd.heap_1 w.params).In h₀ → News h₀ L s.heap news → Top topProg LS mean mg mb h₀ → cs.kind = .function →
    pre → dp + kd < recursionLimit → un + ku < cLine → Ret h₀ L m s Q →
      wpAny (model P0 w) (ktrTop dp un gd cn cs L a ccd cl outer) (call (.ref f) vs) Q E s
noncomputable abbrev RetV (news : List (Addr × Obj)) (R : Tok → Value) : Heap → Addr → (Str → Option Value) → Shared → (Value → Shared → Prop) → Prop :=
  fun h₀ L m s Q => ∀ (t : Tok) (h' : Heap) (tk' : Nat), Fr h₀ L h' m → News h₀ L h' news → Q (R t) { s with heap := h', toks := tk' }
noncomputable def vF (m1 m2 hue : UInt64) : UInt64 :=
  let x := (Float64.divmod hue 4607182418800017408).snd
  if (Float64.cmp x 4595172819793696085 == some Ordering.lt) = true then Float64.add m1 (Float64.mul (Float64.mul (Float64.sub m2 m1) x) 4618441417868443648)
  else if (Float64.cmp x 4602678819172646912 == some Ordering.lt) = true then m2
  else if (Float64.cmp x 4604180019048437077 == some Ordering.lt) = true then Float64.add m1 (Float64.mul (Float64.mul (Float64.sub m2 m1) (Float64.sub 4604180019048437077 x)) 4618441417868443648)
  else m1
noncomputable abbrev tup3 (x y z : UInt64) (t1 t2 t3 : Tok) : Obj := { cls := Value.type "tuple", data := Data.seq #[Value.float x t1, Value.float y t2, Value.float z t3] }
noncomputable abbrev RetT3 (news : List (Addr × Obj)) (x y z : UInt64) : Heap → Addr → (Str → Option Value) → Shared → (Value → Shared → Prop) → Prop :=
  fun h₀ L m s Q => ∀ (d : Addr) (t1 t2 t3 : Tok) (h' : Heap) (tk' : Nat), Fr h₀ L h' m → News h₀ L h' ((d, tup3 x y z t1 t2 t3) :: news) → Q (.ref d) { s with heap := h', toks := tk' }
noncomputable abbrev leB (x y : UInt64) : Bool := Float64.cmp x y == some Ordering.lt || Float64.cmp x y == some Ordering.eq
noncomputable def hlsM2 (l s : UInt64) : UInt64 := if leB l 4602678819172646912 = true then Float64.mul l (Float64.add 4607182418800017408 s) else Float64.sub (Float64.add l s) (Float64.mul l s)
noncomputable def hlsM1 (l s : UInt64) : UInt64 := Float64.sub (Float64.mul 4611686018427387904 l) (hlsM2 l s)
noncomputable def hsvI (h : UInt64) : Int := Flt.toInt Float64.truncOf (Float64.mul h 4618441417868443648)
noncomputable def hsvF (h : UInt64) : UInt64 := Float64.sub (Float64.mul h 4618441417868443648) (Float64.ofInt (hsvI h))
noncomputable def hsvP (s v : UInt64) : UInt64 := Float64.mul v (Float64.sub 4607182418800017408 s)
noncomputable def hsvQ (s v f : UInt64) : UInt64 := Float64.mul v (Float64.sub 4607182418800017408 (Float64.mul s f))
noncomputable def hsvT (s v f : UInt64) : UInt64 := Float64.mul v (Float64.sub 4607182418800017408 (Float64.mul s (Float64.sub 4607182418800017408 f)))
noncomputable def pick6 (i : Int) (a b c d e f : UInt64) : UInt64 := if i = 0 then a else if i = 1 then b else if i = 2 then c else if i = 3 then d else if i = 4 then e else f
noncomputable def hsvR (h s v : UInt64) : UInt64 := pick6 ((hsvI h).fmod 6) v (hsvQ s v (hsvF h)) (hsvP s v) (hsvP s v) (hsvT s v (hsvF h)) v
noncomputable def hsvG (h s v : UInt64) : UInt64 := pick6 ((hsvI h).fmod 6) (hsvT s v (hsvF h)) v v (hsvQ s v (hsvF h)) (hsvP s v) (hsvP s v)
noncomputable def hsvB (h s v : UInt64) : UInt64 := pick6 ((hsvI h).fmod 6) (hsvP s v) (hsvP s v) (hsvT s v (hsvF h)) v v (hsvQ s v (hsvF h))
noncomputable def nearB (x : UInt64) (d : Int) : Bool := Float64.cmp (Float64.abs (Float64.sub x (Float64.ofInt d))) 4562254508917369340 == some Ordering.lt
end Mine.Internal
end
noncomputable section -- CtrK
open PySem PySem.W PySem.Calls PyProof.Rows
namespace Mine.Internal
noncomputable abbrev CtrK (w : World) (kd ku : Nat) (f : Addr) (vs : List Value) (pre : Heap → Prop) (Ret : Shared → (Value → Shared → Prop) → Prop) : Prop :=
  ∀ (mean : ExcName → Option Value) (mg mb : Str → Option Value) (dp un : Nat) (gd : Option (List Code)) (cn : Str) (cs : Scope) (a : Addr) (ccd : Value) (cl : List (Str × Addr)) (outer : List Env) (A₀ : Around) (base h₀ : Heap) (L : Addr) (m : Str → Option Value) (s : Shared) (Q E : Value → Shared → Prop),
    Below A₀ base outer h₀ → Fr h₀ L s.heap m → (hd.heap_1 w.params).In h₀ → Top topProg LS mean mg mb h₀ → cs.kind = .function →
    pre s.heap → dp + kd < recursionLimit → un + ku < cLine → Ret s Q →
      wpAny (model P0 w) (ktrTop dp un gd cn cs L a ccd cl outer) (call (.ref f) vs) Q E s
noncomputable abbrev Keep (h h' : Heap) : Prop := ∀ b o, h.get? b = some o → h'.get? b = some o
noncomputable abbrev RetKV (R : Tok → Value) : Shared → (Value → Shared → Prop) → Prop :=
  fun s Q => ∀ (t : Tok) (h' : Heap) (tk' : Nat), Keep s.heap h' → Q (R t) { s with heap := h', toks := tk' }
theorem enterP {prog : Program} {w : World} {A₀ A : Around} {s : Shared} {base h₀ : Heap} {K : Frag} {p : Program} {loose : List Str} {mean : ExcName → Option Value} {mg mb : Str → Option Value} {L : Addr} {m : Str → Option Value} {env : Env} {outer : List Env} {R : Result → Shared → Prop} {name qual : Str} {params : Arguments} {body : List Stmt} {scope : Scope} {dV kV doc pm cdv ct oc : Value} {an od : Option Addr} {osl : Array (Option Value)} {f : Addr} {args : Args} {binds : List (Str × Value)}
    (B : Below A₀ base outer h₀) (F : Fr h₀ L s.heap m) (X₀ : K.In h₀) (T : Top p loose mean mg mb h₀) (hA : A.frames = some (env :: outer)) (hf : env.frame = some L) (hke : env.scope.kind = .function)
    (ho : K.lookup f = some ⟨oc, od, .func (fnOf name qual params body scope dV kV doc pm an cdv ct), osl⟩) (hcd : codeIn K cdv qual = true) (hroom : A.depth < recursionLimit)
    (hbind : BindsTo s (fnOf name qual params body scope dV kV doc pm an cdv ct) args binds) (hloc : ∀ y ∈ binds, scope.names.lookup y.1 = some .local)
    (h : ∀ L' h₁, Fr s.heap L' h₁ (fun y => binds.reverse.lookup y) → News s.heap L' h₁ [] → Below A base (env :: outer) s.heap → K.In s.heap → Top p loose mean mg mb s.heap →
      wpAny (model prog w) (A.deeper (envOf qual scope L' f cdv)) (execs body (envOf qual scope L' f cdv))
        (fun fl s' => R (.ok (.ret (match fl with | .ret v => v | _ => .none))) s')
        (fun e s' => wpAny (model prog w) (A.deeper (envOf qual scope L' f cdv)) (leaving (envOf qual scope L' f cdv) e) (fun _ s'' => R (.error e) s'') (fun e' s'' => R (.error e') s'') s')
        { s with heap := h₁, toks := s.toks + binds.length })
    (hco : scope.isCoroutine = false) (hgen : scope.isGenerator = false) (hk : scope.kind = .function)
    (hcell : ∀ x ∈ scope.names, x.2 ≠ .cell) : codeAny (model prog w) A (.call (.ref f) args) R s := by
  obtain ⟨_, BG, _, _⟩ := groundX (R := R) B F (News.nil) hA hf hke
  refine codeAny_call_def (fd := fnX name qual params body scope [] dV kV doc pm an cdv ct) (body := body) (binds := binds) hroom ((X₀.keeps F.keep) _ _ ho) rfl (T.nolimit.keeps F.keep) (codeRec_of (X₀.keeps F.keep) hcd) rfl hbind hcell hloc (fun h₁ hns hk₁ => ?_) hco hgen hk
  exact h s.heap.objs.size h₁ ⟨hns, hk₁, Nat.le_refl _⟩ News.nil BG (X₀.keeps F.keep) (T.keeps F.keep)
theorem enterPC {prog : Program} {w : World} {A₀ A : Around} {s : Shared} {base h₀ : Heap} {K : Frag} {p : Program} {loose : List Str} {mean : ExcName → Option Value} {mg mb : Str → Option Value} {L : Addr} {m : Str → Option Value} {env : Env} {outer : List Env} {R : Result → Shared → Prop} {name qual : Str} {params : Arguments} {body : List Stmt} {scope : Scope} {dV kV doc pm cdv ct oc : Value} {an od : Option Addr} {osl : Array (Option Value)} {f : Addr} {args : Args} {binds : List (Str × Value)}
    (B : Below A₀ base outer h₀) (F : Fr h₀ L s.heap m) (X₀ : K.In h₀) (T : Top p loose mean mg mb h₀) (hA : A.frames = some (env :: outer)) (hf : env.frame = some L) (hke : env.scope.kind = .function)
    (ho : K.lookup f = some ⟨oc, od, .func (fnOf name qual params body scope dV kV doc pm an cdv ct), osl⟩) (hcd : codeIn K cdv qual = true) (hroom : A.depth < recursionLimit)
    (hbind : BindsTo s (fnOf name qual params body scope dV kV doc pm an cdv ct) args binds) (hkind : (binds.all fun y => scope.names.lookup y.1 == some .local || scope.names.lookup y.1 == some .cell) = true)
    (hnd : ((cellsFrom 0 scope.names []).map (·.1)).Nodup)
    (h : ∀ L' h₁ tk cells, Fr s.heap L' h₁ (bindL (envOfC qual scope L' f cdv).kindOf binds fun _ => none) → News s.heap L' h₁ cells →
      CellsAre (bindC (envOfC qual scope L' f cdv).kindOf binds fun _ => none) (cellsFrom (L' + 1) scope.names []) cells → Below A base (env :: outer) s.heap → K.In s.heap → Top p loose mean mg mb s.heap →
      wpAny (model prog w) (A.deeper (envOfC qual scope L' f cdv)) (execs body (envOfC qual scope L' f cdv))
        (fun fl s' => R (.ok (.ret (match fl with | .ret v => v | _ => .none))) s')
        (fun e s' => wpAny (model prog w) (A.deeper (envOfC qual scope L' f cdv)) (leaving (envOfC qual scope L' f cdv) e) (fun _ s'' => R (.error e) s'') (fun e' s'' => R (.error e') s'') s')
        { s with heap := h₁, toks := tk })
    (hco : scope.isCoroutine = false) (hgen : scope.isGenerator = false) (hk : scope.kind = .function) : codeAny (model prog w) A (.call (.ref f) args) R s := by
  obtain ⟨_, BG, _, _⟩ := groundX (R := R) B F (News.nil) hA hf hke
  refine codeAny_call_function hroom ((X₀.keeps F.keep) _ _ ho) rfl hco hgen rfl (codeRec_of (X₀.keeps F.keep) hcd) (hbind _ _ _ _ ?_)
  refine wpAny_newFunctionEnv_cells hk (kindsX hkind _) fun env' he s' x => ?_
  subst he
  refine ⟨(T.nolimit.keeps F.keep).keeps x.toInCall.keep, codeAny_func ?_⟩
  obtain ⟨h₁, tk, rfl, _⟩ := x.done
  have hk₁ := x.toInCall.keep
  obtain ⟨cells, NC, Y⟩ := Cl.news (h₀ := s.heap) (Nat.le_refl _) fun n c hm => ⟨x.cell n c (lookup_of_mem_nodup (cellsFrom_names scope.names 0 (s.heap.objs.size + 1) [] [] rfl ▸ hnd) hm), x.above n c hm⟩
  exact h s.heap.objs.size h₁ tk cells ⟨x.toInCall.ns, hk₁, Nat.le_refl _⟩ NC Y BG (X₀.keeps F.keep) (T.keeps F.keep)
theorem frKeep {h₀ h h' : Heap} {L : Addr} {m : Str → Option Value} (F : Fr h₀ L h m) (k : Keep h h') : Fr h₀ L h' m := F.grownK k
theorem newsKeep {h₀ h h' : Heap} {L : Addr} {news : List (Addr × Obj)} (N : News h₀ L h news) (k : Keep h h') : News h₀ L h' news := N.grown k
theorem newsKeep1 {h₀ h h' : Heap} {L d : Addr} {m : Str → Option Value} {o : Obj} {news : List (Addr × Obj)} (F : Fr h₀ L h m) (N : News h₀ L h news) (k : Keep h h') (hn : h.get? d = none) (ho : h'.get? d = some o) : News h₀ L h' ((d, o) :: news) := by
  intro p hp
  rcases List.mem_cons.mp hp with rfl | hp
  · obtain ⟨oL, _, _, hL, _⟩ := F.ns
    refine ⟨ho, fun e => ?_, ?_⟩
    · have e' : d = L := e
      rw [e', hL] at hn; cases hn
    · cases q : h₀.get? d with
      | none => rfl
      | some o' => have := F.keep _ _ q; rw [this] at hn; cases hn
  · exact newsKeep N k p hp
end Mine.Internal
end
section
local macro_rules | `(tactic| omega) => `(tactic| lia)
noncomputable section -- KdigO
namespace Mine.Internal
section
variable {l r md n y v a b : Int} {sz m dp un lim k c d : Nat}
theorem oA (h : un + (40 + 8 * sz) < lim) (h0 : 0 < sz) (hr : r = l + (sz : Int)) (hn : l + 1 ≠ r) : un + 3 + (40 + 8 * (sz - sz / 2)) < lim := by omega
theorem oB (h : dp + (4 + sz) < lim) (h0 : 0 < sz) (hr : r = l + (sz : Int)) (hn : l + 1 ≠ r) : dp + 1 + (4 + (sz - sz / 2)) < lim := by omega
theorem oC (h0 : 0 < sz) (hr : r = l + (sz : Int)) (hn : l + 1 ≠ r) : sz - sz / 2 < sz := by omega
theorem oD (h : un + (40 + 8 * sz) < lim) (h0 : 0 < sz) : un + 3 + (40 + 8 * (sz / 2)) < lim := by omega
theorem oE (h : dp + (4 + sz) < lim) (h0 : 0 < sz) : dp + 1 + (4 + sz / 2) < lim := by omega
theorem oF : sz - sz / 2 + sz / 2 = sz := Nat.sub_add_cancel (Nat.div_le_self _ _)
theorem oF' : sz / 2 + (sz - sz / 2) = sz := Nat.add_sub_cancel' (Nat.div_le_self _ _)
theorem oG (hr : r = l + (sz : Int)) (hm : md = l + ((sz / 2 : Nat) : Int)) : r = md + ((sz - sz / 2 : Nat) : Int) := by omega
theorem oH (h0 : 0 < sz) : 0 < sz - sz / 2 := by omega
theorem oI (hr : r = l + (sz : Int)) : (l + r) / 2 = l + ((sz / 2 : Nat) : Int) := by omega
theorem oJ (hl : 0 ≤ l) : 0 ≤ l + ((sz / 2 : Nat) : Int) := Int.add_nonneg hl (Int.natCast_nonneg _)
theorem oK (hr : r = l + (sz : Int)) (hri : r ≤ (m : Int)) (hm : md = l + ((sz / 2 : Nat) : Int)) : md ≤ (m : Int) := by omega
theorem oL (h0 : 0 < sz) (hr : r = l + (sz : Int)) (hn : l + 1 ≠ r) : 0 < sz / 2 := by omega
theorem oM : sz / 2 ≤ sz := Nat.div_le_self _ _
theorem oN (h0 : 0 < sz) : sz / 2 < sz := Nat.div_lt_self h0 (by decide)
theorem oO (h7 : sz ≤ 7) (hm : md = l + ((sz / 2 : Nat) : Int)) : -(2 ^ 64) < md - l := by omega
theorem oP (h7 : sz ≤ 7) (hm : md = l + ((sz / 2 : Nat) : Int)) : md - l < 2 ^ 64 := by omega
theorem oQ (hri : r ≤ (m : Int)) (he : l + 1 = r) : l < (m : Int) := by omega
theorem oR (h7 : sz ≤ 7) : sz / 2 ≤ 7 := Nat.le_trans (Nat.div_le_self _ _) h7
theorem oS (h7 : sz ≤ 7) : sz - sz / 2 ≤ 7 := Nat.le_trans (Nat.sub_le _ _) h7
theorem oT : (0 : Int) ≤ ((sz / 2 : Nat) : Int) := Int.natCast_nonneg _
theorem oU (h7 : sz ≤ 7) : ((sz / 2 : Nat) : Int) ≤ 3 := by omega
theorem oV (h : dp + (4 + sz) < lim) : dp < lim := Nat.lt_of_le_of_lt (Nat.le_add_right _ _) h
theorem oW (hr : r = l + (sz : Int)) (he : l + 1 = r) : sz = 1 := by omega
theorem oX (h : un + 160 < lim) (h7 : k ≤ 7) : un + 3 + (40 + 8 * k) < lim := by omega
theorem oY (h : dp + 16 < lim) (h7 : k ≤ 7) : dp + 1 + (4 + k) < lim := by omega
theorem oZ (h : dp + 16 < lim) : dp < lim := Nat.lt_of_le_of_lt (Nat.le_add_right _ _) h
theorem pA (h0 : 0 < n) : 0 ≤ n := Int.le_of_lt h0
theorem pB (h0 : 0 < n) (h8 : n < 8) : n.toNat ≤ 7 := by omega
theorem pC (h0 : 0 < n) (h8 : n < 8) : n.natAbs < 1073741824 := by omega
theorem pD (h8 : n < 8) (h : ((sz / 2 : Nat) : Int) * n ≤ 3 * n) : ((sz / 2 : Nat) : Int) * n ≤ 21 := by omega
theorem pE (h : y ≤ 21) : y ≤ 1000000 := Int.le_trans h (by decide)
theorem pF (h : 0 ≤ y) : -(2 ^ 64) < y := Int.lt_of_lt_of_le (by decide) h
theorem pG (h : y < 128) : y < 2 ^ 64 := Int.lt_trans h (by decide)
theorem pH (h : v < 562949953421312) : v < 2 ^ 64 := Int.lt_trans h (by decide)
theorem pI : l + ((sz / 2 : Nat) : Int) - l = ((sz / 2 : Nat) : Int) := by omega
theorem pJ (hl : 0 ≤ l) (hm : md = l + ((sz / 2 : Nat) : Int)) : md.toNat = l.toNat + sz / 2 := by omega
theorem pJ' (hl : 0 ≤ l) : (l + ((sz / 2 : Nat) : Int)).toNat = l.toNat + sz / 2 := by omega
theorem pK (hl : 0 ≤ l) (hr : r = l + (sz : Int)) (hri : r ≤ (m : Int)) : l.toNat + sz ≤ m := by omega
theorem pL (hl : 0 ≤ l) (hri : r ≤ (m : Int)) (he : l + 1 = r) : l.toNat + 1 ≤ m := by omega
theorem pM (hri : r ≤ (m : Int)) (h7 : m ≤ 7) (he : l + 1 = r) : l < 2 ^ 63 := by omega
theorem pN (h7 : m ≤ 7) : (m : Int) < 2 ^ 63 := by omega
theorem pO (h7 : m ≤ 7) : m < 2 ^ 62 := Nat.lt_of_le_of_lt h7 (by decide)
theorem pP (h7 : m ≤ 7) : m ≤ 1000 := Nat.le_trans h7 (by decide)
theorem pQ (h7 : m ≤ 7) : m ≤ 200 := Nat.le_trans h7 (by decide)
theorem pR (h0 : 0 ≤ y) (h8 : y < 128) (e : v + a % b = y) (hv : 0 ≤ v) : a % b < 128 := by omega
end
end Mine.Internal
end
end
noncomputable section -- CtrT
open PySem PySem.W PySem.Calls PyProof.Rows
namespace Mine.Internal
noncomputable abbrev KeepBut (as : List Addr) (h h' : Heap) : Prop := ∀ b o, b ∉ as → h.get? b = some o → h'.get? b = some o
noncomputable abbrev CtrT (w : World) (kd ku : Nat) (f : Addr) (news : List (Addr × Obj)) (vs : List Value) (pre : Heap → Prop) (Ret : Heap → Shared → (Value → Shared → Prop) → Prop) : Prop :=
  ∀ (mean : ExcName → Option Value) (mg mb : Str → Option Value) (dp un : Nat) (gd : Option (List Code)) (cn : Str) (cs : Scope) (a : Addr) (ccd : Value) (cl : List (Str × Addr)) (outer : List Env) (A₀ : Around) (base h₀ : Heap) (L : Addr) (m : Str → Option Value) (s : Shared) (Q E : Value → Shared → Prop),
    Below A₀ base outer h₀ → Fr h₀ L s.heap m → (hd.heap_1 w.params).In h₀ → News h₀ L s.heap news → Top topProg LS mean mg mb h₀ → cs.kind = .function → CodeHd h₀ 69 65 → CodeHd h₀ 76 72 →
    pre s.heap → dp + kd < recursionLimit → un + ku < cLine → Ret (hideAll s.heap (news.map (·.1))) s Q →
      wpAny (model P0 w) (ktrTop dp un gd cn cs L a ccd cl outer) (call (.ref f) vs) Q E s
section
variable {prog : Program} {w : World} {A₀ A : Around} {s : Shared} {base h₀ : Heap} {K : Frag} {p : Program} {loose : List Str} {mean : ExcName → Option Value} {mg mb : Str → Option Value} {L : Addr} {m : Str → Option Value} {env : Env} {outer : List Env} {R : Result → Shared → Prop} {name qual : Str} {params : Arguments} {body : List Stmt} {scope : Scope} {dV kV doc pm cdv ct oc : Value} {an od : Option Addr} {osl : Array (Option Value)} {f : Addr} {args : Args} {binds : List (Str × Value)} {news : List (Addr × Obj)}
theorem enterT
    (B : Below A₀ base outer h₀) (F : Fr h₀ L s.heap m) (X₀ : K.In h₀) (N : News h₀ L s.heap news) (T : Top p loose mean mg mb h₀) (hA : A.frames = some (env :: outer)) (hf : env.frame = some L) (hke : env.scope.kind = .function)
    (ho : K.lookup f = some ⟨oc, od, .func (fnOf name qual params body scope dV kV doc pm an cdv ct), osl⟩) (hcd : codeIn K cdv qual = true) (hroom : A.depth < recursionLimit)
    (hbind : BindsTo s (fnOf name qual params body scope dV kV doc pm an cdv ct) args binds) (hloc : ∀ y ∈ binds, scope.names.lookup y.1 = some .local)
    (C1 : CodeHd h₀ 69 65) (C2 : CodeHd h₀ 76 72)
    (h : ∀ L' h₁, Fr (hideAll s.heap (news.map (·.1))) L' h₁ (fun y => binds.reverse.lookup y) → News (hideAll s.heap (news.map (·.1))) L' h₁ news → Below A base (env :: outer) (hideAll s.heap (news.map (·.1))) → K.In (hideAll s.heap (news.map (·.1))) → Top p loose mean mg mb (hideAll s.heap (news.map (·.1))) →
      CodeHd (hideAll s.heap (news.map (·.1))) 69 65 → CodeHd (hideAll s.heap (news.map (·.1))) 76 72 → (∀ p ∈ news, p.1 < L') →
      wpAny (model prog w) (A.deeper (envOf qual scope L' f cdv)) (execs body (envOf qual scope L' f cdv))
        (fun fl s' => R (.ok (.ret (match fl with | .ret v => v | _ => .none))) s')
        (fun e s' => wpAny (model prog w) (A.deeper (envOf qual scope L' f cdv)) (leaving (envOf qual scope L' f cdv) e) (fun _ s'' => R (.error e) s'') (fun e' s'' => R (.error e') s'') s')
        { s with heap := h₁, toks := s.toks + binds.length })
    (hco : scope.isCoroutine = false) (hgen : scope.isGenerator = false) (hk : scope.kind = .function)
    (hcell : ∀ x ∈ scope.names, x.2 ≠ .cell) : codeAny (model prog w) A (.call (.ref f) args) R s := by
  obtain ⟨_, BG, st, _⟩ := groundX (R := R) B F N hA hf hke
  refine codeAny_call_def (fd := fnX name qual params body scope [] dV kV doc pm an cdv ct) (body := body) (binds := binds) hroom ((X₀.keeps F.keep) _ _ ho) rfl (T.nolimit.keeps F.keep) (codeRec_of (X₀.keeps F.keep) hcd) rfl hbind hcell hloc (fun h₁ hns hk₁ => ?_) hco hgen hk
  exact h s.heap.objs.size h₁ ⟨hns, fun b o e => hk₁ b o (of_hideAll _ e), Nat.le_of_eq (hideAll_size _ _)⟩ (fun p hp => ⟨hk₁ _ _ (N p hp).1, Nat.ne_of_lt (Heap.lt_size (N p hp).1), hideAll_none _ (List.mem_map_of_mem hp)⟩) BG (X₀.keeps st) (T.keeps st) (C1.keeps st) (C2.keeps st) (fun p hp => Heap.lt_size (N p hp).1)
theorem enterTC
    (B : Below A₀ base outer h₀) (F : Fr h₀ L s.heap m) (X₀ : K.In h₀) (N : News h₀ L s.heap news) (T : Top p loose mean mg mb h₀) (hA : A.frames = some (env :: outer)) (hf : env.frame = some L) (hke : env.scope.kind = .function)
    (ho : K.lookup f = some ⟨oc, od, .func (fnOf name qual params body scope dV kV doc pm an cdv ct), osl⟩) (hcd : codeIn K cdv qual = true) (hroom : A.depth < recursionLimit)
    (hbind : BindsTo s (fnOf name qual params body scope dV kV doc pm an cdv ct) args binds) (hkind : (binds.all fun y => scope.names.lookup y.1 == some .local || scope.names.lookup y.1 == some .cell) = true)
    (hnd : ((cellsFrom 0 scope.names []).map (·.1)).Nodup)
    (C1 : CodeHd h₀ 69 65) (C2 : CodeHd h₀ 76 72)
    (h : ∀ L' h₁ tk cells, Fr (hideAll s.heap (news.map (·.1))) L' h₁ (bindL (envOfC qual scope L' f cdv).kindOf binds fun _ => none) → News (hideAll s.heap (news.map (·.1))) L' h₁ (cells ++ news) →
      CellsAre (bindC (envOfC qual scope L' f cdv).kindOf binds fun _ => none) (cellsFrom (L' + 1) scope.names []) cells → Below A base (env :: outer) (hideAll s.heap (news.map (·.1))) → K.In (hideAll s.heap (news.map (·.1))) → Top p loose mean mg mb (hideAll s.heap (news.map (·.1))) →
      CodeHd (hideAll s.heap (news.map (·.1))) 69 65 → CodeHd (hideAll s.heap (news.map (·.1))) 76 72 → (∀ p ∈ news, p.1 < L') →
      wpAny (model prog w) (A.deeper (envOfC qual scope L' f cdv)) (execs body (envOfC qual scope L' f cdv))
        (fun fl s' => R (.ok (.ret (match fl with | .ret v => v | _ => .none))) s')
        (fun e s' => wpAny (model prog w) (A.deeper (envOfC qual scope L' f cdv)) (leaving (envOfC qual scope L' f cdv) e) (fun _ s'' => R (.error e) s'') (fun e' s'' => R (.error e') s'') s')
        { s with heap := h₁, toks := tk })
    (hco : scope.isCoroutine = false) (hgen : scope.isGenerator = false) (hk : scope.kind = .function) : codeAny (model prog w) A (.call (.ref f) args) R s := by
  obtain ⟨_, BG, st, _⟩ := groundX (R := R) B F N hA hf hke
  refine codeAny_call_function hroom ((X₀.keeps F.keep) _ _ ho) rfl hco hgen rfl (codeRec_of (X₀.keeps F.keep) hcd) (hbind _ _ _ _ ?_)
  refine wpAny_newFunctionEnv_cells hk (kindsX hkind _) fun env' he s' x => ?_
  subst he
  refine ⟨(T.nolimit.keeps F.keep).keeps x.toInCall.keep, codeAny_func ?_⟩
  obtain ⟨h₁, tk, rfl, _⟩ := x.done
  have hk₁ := x.toInCall.keep
  obtain ⟨cells, NC, Y⟩ := Cl.news (h₀ := s.heap) (Nat.le_refl _) fun n c hm => ⟨x.cell n c (lookup_of_mem_nodup (cellsFrom_names scope.names 0 (s.heap.objs.size + 1) [] [] rfl ▸ hnd) hm), x.above n c hm⟩
  refine h s.heap.objs.size h₁ tk cells ⟨x.toInCall.ns, fun b o e => hk₁ b o (of_hideAll _ e), Nat.le_of_eq (hideAll_size _ _)⟩ (fun p hp => ?_) Y BG (X₀.keeps st) (T.keeps st) (C1.keeps st) (C2.keeps st) (fun p hp => Heap.lt_size (N p hp).1)
  rcases List.mem_append.mp hp with hp | hp
  · refine ⟨(NC p hp).1, (NC p hp).2.1, ?_⟩
    cases q : (hideAll s.heap (news.map (·.1))).get? p.1 with
    | none => rfl
    | some o => have := of_hideAll _ q; rw [(NC p hp).2.2] at this; cases this
  · exact ⟨hk₁ _ _ (N p hp).1, Nat.ne_of_lt (Heap.lt_size (N p hp).1), hideAll_none _ (List.mem_map_of_mem hp)⟩
end
end Mine.Internal
end
noncomputable section -- Knst
open PySem PySem.W PySem.Calls PyProof.Rows
namespace Mine.Internal
noncomputable abbrev tab65 (c : Addr) : Obj := tabObj (#[] ++ #[rawInt ((101 : Nat) : Int), rawInt ((4 : Nat) : Int), Value.ref c])
noncomputable def i2dQ : Str := Str.ofString "_int2digits.<locals>.inner"
noncomputable abbrev tab72 (c : Addr) : Obj := tabObj (#[] ++ #[rawInt ((116 : Nat) : Int), rawInt ((4 : Nat) : Int), Value.ref c])
noncomputable def d2iQ : Str := Str.ofString "_digits2int.<locals>.inner"
noncomputable def CodeQ (q : Str) (o : Obj) : Prop := ∃ vs tq, o.data = .fields vs ∧ vs[1]? = some (.str q tq)
theorem codeQ0 {q : Str} (h : CodeQ q (tabObj #[])) : False := by
  obtain ⟨vs, tq, e, h⟩ := h
  cases e; cases h
theorem codeQ65 {q : Str} {c : Addr} (h : CodeQ q (tab65 c)) : False := by
  obtain ⟨vs, tq, e, h⟩ := h
  cases e; cases h
theorem codeQ72 {q : Str} {c : Addr} (h : CodeQ q (tab72 c)) : False := by
  obtain ⟨vs, tq, e, h⟩ := h
  cases e; cases h
noncomputable def TI (tab : Addr → Obj) (q : Str) (h : Heap) (o : Obj) : Prop := o = tabObj #[] ∨ ∃ c oc, o = tab c ∧ h.get? c = some oc ∧ CodeQ q oc
noncomputable def TJ (tab : Addr → Obj) (q : Str) (a : Addr) (h hz : Heap) (o : Obj) : Prop := ∃ c oc, hz.get? a = some (tab c) ∧ hz.get? c = some oc ∧ CodeQ q oc ∧ ((h.get? c = none ∧ o = tabObj #[]) ∨ o = tab c)
noncomputable def IK (tab : Addr → Obj) (q : Str) (g : Heap) (o o' : Obj) (c x : Addr) (p : Obj) : Prop := ∃ oc, o' = tab c ∧ CodeQ q oc ∧ ((x = c ∧ p = oc ∧ o = tabObj #[]) ∨ (g.get? c = some oc ∧ o = tab c))
noncomputable def CRx (q : Str) (g : Heap) (c x : Addr) (p : Obj) : Prop := (x = c ∧ CodeQ q p) ∨ ∃ oc, g.get? c = some oc ∧ CodeQ q oc
theorem tab0_65 (c : Addr) : tab65 c ≠ tabObj #[] := fun e => by cases e
theorem tab0_72 (c : Addr) : tab72 c ≠ tabObj #[] := fun e => by cases e
theorem tabI_65 (c c' : Addr) (e : tab65 c = tab65 c') : c = c' := by cases e; rfl
theorem tabI_72 (c c' : Addr) (e : tab72 c = tab72 c') : c = c' := by cases e; rfl
section
variable {tab : Addr → Obj} {q : Str} {P c x : Addr} {o o' p : Obj} {g g' h hz s : Heap} {as : List Addr}
theorem IK.crx (i : IK tab q g o o' c x p) : CRx q g c x p := by
  obtain ⟨oc, -, hq, ⟨e, rfl, -⟩ | ⟨e, -⟩⟩ := i
  · exact .inl ⟨e, hq⟩
  · exact .inr ⟨oc, e, hq⟩
theorem CRx.mono (i : CRx q g c x p) (k : Keep g g') : CRx q g' c x p := i.imp id fun ⟨oc, e, hq⟩ => ⟨oc, k _ _ e, hq⟩
theorem CRx.at (i : CRx q g c x p) (k : Keep g h) (e : h.get? x = some p) : h.CodeRec (.ref c) q := by
  rcases i with ⟨rfl, vs, tq, hd, hv⟩ | ⟨oc, e, vs, tq, hd, hv⟩
  · exact ⟨_, _, vs, tq, rfl, e, hd, hv⟩
  · exact ⟨_, _, vs, tq, rfl, k _ _ e, hd, hv⟩
theorem TI.mono (t : TI tab q g o) (k : Keep g h) : TI tab q h o := by
  rcases t with e | ⟨c, oc, e, h1, h2⟩
  · exact .inl e
  · exact .inr ⟨c, oc, e, k _ _ h1, h2⟩
theorem codeNe {q' : Str} {a : Addr} (t : TI tab q h o) (f : ∀ c, ¬ CodeQ q' (tab c)) {c : Addr} {oc : Obj} (e : h.get? a = some o) (hc : h.get? c = some oc) (hq : CodeQ q' oc) : c ≠ a := by
  rintro rfl
  rw [e] at hc; cases hc
  rcases t with rfl | ⟨c', oc', rfl, -, -⟩
  · exact codeQ0 hq
  · exact f _ hq
theorem IK.base (i : IK tab q g o o' c x p) (f0 : ∀ c, tab c ≠ tabObj #[]) (fi : ∀ c c', tab c = tab c' → c = c') (t : TI tab q h o) : IK tab q h o o' c x p := by
  obtain ⟨oc, e, hq, i | ⟨e2, rfl⟩⟩ := i
  · exact ⟨oc, e, hq, .inl i⟩
  · rcases t with e3 | ⟨c', oc', e3, e4, e5⟩
    · exact absurd e3 (f0 c)
    · obtain rfl := fi _ _ e3
      exact ⟨oc', e, e5, .inr ⟨e4, rfl⟩⟩
theorem none_hide {h g : Heap} {as : List Addr} {d : Addr} (hg : hideAll h as = g) (hn : g.get? d = none) (hd : d ∉ as) : h.get? d = none := by
  cases q : h.get? d with
  | none => rfl
  | some o => rw [← hg, hideAll_get _ q hd] at hn; cases hn
theorem IK.tj (i : IK tab q g o o' c x p) (hg : hideAll s as = g) (k : Keep g hz) (e : hz.get? P = some o') (ex : hz.get? x = some p) (nx : g.get? x = none) (hx : CodeQ q p → x ∉ as) : TJ tab q P s hz o := by
  obtain ⟨oc, rfl, hq, ⟨rfl, rfl, e1⟩ | ⟨e1, e2⟩⟩ := i
  · exact ⟨_, _, e, ex, hq, .inl ⟨none_hide hg nx (hx hq), e1⟩⟩
  · exact ⟨_, _, e, k _ _ e1, hq, .inr e2⟩
end
section
variable {M : Model} {A : Around} {E : Value → Shared → Prop} {s : Shared} {h₀ : Heap} {L a c P : Addr} {m mg mb : Str → Option Value} {cn : Str} {cs : Scope} {ccd : Value} {cl : List (Str × Addr)} {news : List (Addr × Obj)} {g : Obj → List (Addr × Obj)}
  {p : Program} {loose : List Str} {mean : ExcName → Option Value} {name qual : Str} {params : Arguments} {body : List Stmt} {scope : Scope} {pos : Pos} {firstLine : Nat} {clos : List (Str × Addr)}
theorem nest_U {tab : Addr → Obj} {q : Str} {o1 : Obj} {Q : Value → Shared → Prop} (F : Fr h₀ L s.heap m) (N : News h₀ L s.heap news) (T : Top p loose mean mg mb h₀) (C : CodeHd h₀ c P) (hcd : ccd = .ref c) (U : UpdF P o1 news g) (hT : TI tab q h₀ o1) (hq : q = qual)
    (htab : ∀ c', tab c' = tabObj (#[] ++ #[rawInt pos.line, rawInt pos.col, .ref c'])) (hcl : closureFor scope (envX cn cs L a ccd cl) = pure clos)
    (h : ∀ f c' x p o' ctv doc h' tk, IK tab q h₀ o1 o' c' x p → (∀ q ∈ news, q.1 < x) → (∀ q ∈ news, q.1 < f) → Fr h₀ L h' m →
      News h₀ L h' ((f, fnMade name qual params body scope clos doc ((mg "__name__").getD .none) c' ctv) :: (x, p) :: g o') → Q (.ref f) { s with heap := h', toks := tk }) :
    wpAny M A (makeFunction name qual params (.stmts body) scope (envX cn cs L a ccd cl) [] [] [] pos firstLine) Q E s := by
  subst hq
  rcases hT with rfl | ⟨c', oc, rfl, hc, hq⟩
  · refine nest_K F N T C hcd U trivial rfl hcl fun f c' oc vs t ctv doc h' tk F' N' hd hv l1 l2 => ?_
    exact h f c' c' oc _ ctv doc h' tk ⟨oc, (htab c').symm ▸ rfl, ⟨vs, t, hd, hv⟩, .inl ⟨rfl, rfl, rfl⟩⟩ l1 (fun q hq => Nat.lt_trans (l1 q hq) l2) F' N'
  · obtain ⟨own, rest, rfl, hgr, h1, h2⟩ := U.split
    rw [htab c'] at N h
    have hm : (P, tabObj (#[] ++ #[rawInt pos.line, rawInt pos.col, .ref c'])) ∈ own ++ (P, tabObj (#[] ++ #[rawInt pos.line, rawInt pos.col, .ref c'])) :: rest := List.mem_append_right _ (.head _)
    refine nestHit_K (c' := c') F N T C hcd hm (by simp [TriplesOk, rawInt]) (by simp [codeAmong, rawInt]) hcl fun f ctv doc h' tk F' N' l1 => ?_
    refine h f c' f (fnMade name q params body scope clos doc ((mg (Str.ofString "__name__")).getD Value.none) c' ctv) (tabObj (#[] ++ #[rawInt pos.line, rawInt pos.col, .ref c'])) ctv doc h' tk ⟨oc, (htab c').symm, hq, .inr ⟨hc, (htab c').symm⟩⟩ l1 l1 F' fun e he => ?_
    rcases List.mem_cons.mp he with rfl | he
    · exact N' _ (.head _)
    rcases List.mem_cons.mp he with rfl | he
    · exact N' _ (.head _)
    · rw [hgr] at he; exact N' _ (.tail _ he)
end
end Mine.Internal
end
noncomputable section -- CtrN
open PySem PySem.W PySem.Calls PyProof.Rows
namespace Mine.Internal
noncomputable abbrev CtrF (w : World) (kd ku : Nat) (f : Addr) (news : List (Addr × Obj)) (vs : List Value) (pre : Prop) (Ret : Heap → Shared → (Value → Shared → Prop) → Prop) : Prop :=
  ∀ (mean : ExcName → Option Value) (mg mb : Str → Option Value) (dp un : Nat) (gd : Option (List Code)) (cn : Str) (cs : Scope) (a : Addr) (ccd : Value) (cl : List (Str × Addr)) (outer : List Env) (A₀ : Around) (base h₀ : Heap) (L : Addr) (m : Str → Option Value) (s : Shared) (Q E : Value → Shared → Prop),
    Below A₀ base outer h₀ → Fr h₀ L s.heap m → (hd.heap_1 w.params).In h₀ → News h₀ L s.heap news → Top topProg LS mean mg mb h₀ → cs.kind = .function → (∃ c P, CodeHd h₀ c P) →
    pre → dp + kd < recursionLimit → un + ku < cLine → Ret (hideAll s.heap (news.map (·.1))) s Q →
      wpAny (model P0 w) (ktrTop dp un gd cn cs L a ccd cl outer) (call (.ref f) vs) Q E s
section
variable {prog : Program} {w : World} {A₀ A : Around} {s : Shared} {base h₀ : Heap} {K : Frag} {p : Program} {loose : List Str} {mean : ExcName → Option Value} {mg mb : Str → Option Value} {L : Addr} {m : Str → Option Value} {env : Env} {outer : List Env} {R : Result → Shared → Prop} {name qual : Str} {params : Arguments} {body : List Stmt} {scope : Scope} {cl : List (Str × Addr)} {doc pm ctv : Value} {c' : Addr} {f : Addr} {args : Args} {binds : List (Str × Value)} {news : List (Addr × Obj)}
theorem enterN
    (B : Below A₀ base outer h₀) (F : Fr h₀ L s.heap m) (X₀ : K.In h₀) (N : News h₀ L s.heap news) (T : Top p loose mean mg mb h₀) (hA : A.frames = some (env :: outer)) (hf : env.frame = some L) (hke : env.scope.kind = .function)
    (ho : (f, fnMade name qual params body scope cl doc pm c' ctv) ∈ news) (hcd : s.heap.CodeRec (.ref c') qual) (hroom : A.depth < recursionLimit)
    (hbind : BindsTo s (fnX name qual params body scope cl .none .none doc pm none (.ref c') ctv) args binds) (hloc : ∀ y ∈ binds, scope.names.lookup y.1 = some .local)
    (h : ∀ L' h₁, Fr (hideAll s.heap (news.map (·.1))) L' h₁ (fun y => binds.reverse.lookup y) → News (hideAll s.heap (news.map (·.1))) L' h₁ news → Below A base (env :: outer) (hideAll s.heap (news.map (·.1))) → K.In (hideAll s.heap (news.map (·.1))) → Top p loose mean mg mb (hideAll s.heap (news.map (·.1))) →
      h₀.StaysIn (hideAll s.heap (news.map (·.1))) → (∀ p ∈ news, p.1 < L') →
      wpAny (model prog w) (A.deeper (envX qual scope L' f (.ref c') cl)) (execs body (envX qual scope L' f (.ref c') cl))
        (fun fl s' => R (.ok (.ret (match fl with | .ret v => v | _ => .none))) s')
        (fun e s' => wpAny (model prog w) (A.deeper (envX qual scope L' f (.ref c') cl)) (leaving (envX qual scope L' f (.ref c') cl) e) (fun _ s'' => R (.error e) s'') (fun e' s'' => R (.error e') s'') s')
        { s with heap := h₁, toks := s.toks + binds.length })
    (hco : scope.isCoroutine = false) (hgen : scope.isGenerator = false) (hk : scope.kind = .function)
    (hcell : ∀ x ∈ scope.names, x.2 ≠ .cell) : codeAny (model prog w) A (.call (.ref f) args) R s := by
  obtain ⟨_, BG, st, _⟩ := groundX (R := R) B F N hA hf hke
  refine codeAny_call_def (fd := fnX name qual params body scope cl .none .none doc pm none (.ref c') ctv) (body := body) (binds := binds) hroom (N _ ho).1 rfl (T.nolimit.keeps F.keep) hcd rfl hbind hcell hloc (fun h₁ hns hk₁ => ?_) hco hgen hk
  exact h s.heap.objs.size h₁ ⟨hns, fun b o e => hk₁ b o (of_hideAll _ e), Nat.le_of_eq (hideAll_size _ _)⟩ (fun p hp => ⟨hk₁ _ _ (N p hp).1, Nat.ne_of_lt (Heap.lt_size (N p hp).1), hideAll_none _ (List.mem_map_of_mem hp)⟩) BG (X₀.keeps st) (T.keeps st) st (fun p hp => Heap.lt_size (N p hp).1)
end
theorem nameNews {P : Prop} {h₀ h : Heap} {L a : Addr} {o : Obj} {rest : List (Addr × Obj)} (N : News h₀ L h ((a, o) :: rest)) (k : ∀ o', o = o' → News h₀ L h ((a, o') :: rest) → P) : P := k o rfl N
end Mine.Internal
end
noncomputable section -- Kset
open PySem PySem.W PySem.Calls PyProof.Rows
namespace Mine.Internal
section
variable {prog : Program} {w : World} {A : Around} {E : Value → Shared → Prop} {s : Shared} {h₀ : Heap} {L D : Addr} {m : Str → Option Value} {news news' : List (Addr × Obj)} {its : Array Value} {n : Nat} {k : Int} {t : Tok} {v : Value}
theorem setItem_U {Q : Unit → Shared → Prop} (F : Fr h₀ L s.heap m) (Nw : News h₀ L s.heap news) (U : Upd D (W.listOf its n) (W.listOf (its.setIfInBounds k.toNat v) n) news news') (h0 : 0 ≤ k) (h1 : k < its.size) (h2 : its.size ≤ 1000)
    (h : ∀ h', Fr h₀ L h' m → News h₀ L h' news' → Q () { s with heap := h' }) : wpAny (model prog w) A (setItem (.ref D) (.int k t) v) Q E s := by
  obtain ⟨pre, post, rfl, rfl, a, b⟩ := U.split
  have z := Nw (D, W.listOf its n) (List.mem_append.mpr (.inr (.head _)))
  refine ki_setAt z.1 h0 (by omega) (by omega) (h _ (F.change (Heap.SameBut.update ..) z.2.1 z.2.2) (ki_turn _ Nw a b rfl ?_))
  rw [if_pos (by simp)]
end
end Mine.Internal
end
section
local macro_rules | `(tactic| omega) => `(tactic| lia)
noncomputable section -- KdigM
open PySem PySem.W PySem.Calls PyProof.Rows
namespace Mine.Internal
theorem nat_low (y S : Nat) : (y &&& (y / 2 ^ S * 2 ^ S)) = y / 2 ^ S * 2 ^ S := by
  have h : ∀ i, (y / 2 ^ S * 2 ^ S).testBit i = (decide (S ≤ i) && y.testBit i) := by
    intro i
    rw [Nat.testBit_mul_two_pow, Nat.testBit_div_two_pow]
    by_cases hi : S ≤ i
    · simp [hi, Nat.sub_add_cancel hi]
    · simp [hi]
  apply Nat.eq_of_testBit_eq; intro i; rw [Nat.testBit_and, h]; cases decide (S ≤ i) <;> cases y.testBit i <;> rfl
theorem bitAnd_nat (a b : Nat) : Builtin.bitAnd (a : Int) (b : Int) = ((a &&& b : Nat) : Int) := by
  unfold Builtin.bitAnd
  rw [decide_eq_true (Int.natCast_nonneg a), decide_eq_true (Int.natCast_nonneg b)]
  simp
theorem xor_low (y : Int) (S : Nat) (h0 : 0 ≤ y) : Builtin.bitXor y (y.fdiv (2 ^ S) * 2 ^ S) = y % 2 ^ S := by
  obtain ⟨k, rfl⟩ := Int.eq_ofNat_of_zero_le h0
  have e : ((k : Int).fdiv (2 ^ S) * 2 ^ S) = ((k / 2 ^ S * 2 ^ S : Nat) : Int) := by
    rw [Int.fdiv_eq_ediv_of_nonneg _ (Int.le_of_lt (Int.pow_pos (by decide)))]
    simp
  rw [e, bitXor_and, bitAnd_nat, nat_low]
  have h3 := Nat.div_add_mod k (2 ^ S)
  rw [Nat.mul_comm] at h3
  have e3 : ((k : Int) % 2 ^ S) = ((k % 2 ^ S : Nat) : Int) := by simp
  rw [e3]
  omega
noncomputable def Filled (its its' : Array Value) (l : Int) (k : Nat) (y n : Int) : Prop :=
  its'.size = its.size ∧ (∀ j : Nat, ((j : Int) < l ∨ l + k ≤ (j : Int)) → its'[j]? = its[j]?) ∧ ∀ i : Nat, i < k → ∃ t, its'[l.toNat + i]? = some (.int (y / 2 ^ (n.toNat * i) % 2 ^ n.toNat) t)
theorem filled_one {its : Array Value} {l y n : Int} {t : Tok} (h0 : 0 ≤ l) (h1 : l < its.size) (hy : 0 ≤ y) (hy1 : y < 2 ^ (n.toNat * 1)) : Filled its (its.setIfInBounds l.toNat (.int y t)) l 1 y n := by
  refine ⟨by simp, fun j hj => ?_, fun i hi => ⟨t, ?_⟩⟩
  · rw [Array.getElem?_setIfInBounds_ne (by omega)]
  · have : i = 0 := by omega
    subst this
    have hl : l.toNat < its.size := by omega
    have e : y / 2 ^ (n.toNat * 0) % 2 ^ n.toNat = y := by
      rw [Nat.mul_zero, Int.pow_zero, Int.ediv_one]
      exact Int.emod_eq_of_lt hy (by simpa using hy1)
    rw [e]
    simp [hl]
theorem filled_two {its its1 its2 : Array Value} {l y n : Int} {h k : Nat} (h0 : 0 ≤ l) (hk : h ≤ k) (hy : 0 ≤ y)
    (A : Filled its its1 l h (y % 2 ^ (n.toNat * h)) n) (B : Filled its1 its2 (l + h) (k - h) (y / 2 ^ (n.toNat * h)) n) : Filled its its2 l k y n := by
  obtain ⟨a1, a2, a3⟩ := A
  obtain ⟨b1, b2, b3⟩ := B
  refine ⟨b1.trans a1, fun j hj => ?_, fun i hi => ?_⟩
  · rw [b2 j (by omega), a2 j (by omega)]
  · by_cases c : i < h
    · obtain ⟨t, e⟩ := a3 i c
      refine ⟨t, ?_⟩
      rw [b2 (l.toNat + i) (by omega), e]
      congr 2
      obtain ⟨z, rfl⟩ := Int.eq_ofNat_of_zero_le hy
      have q : (z % 2 ^ (n.toNat * h) / 2 ^ (n.toNat * i) % 2 ^ n.toNat : Nat) = z / 2 ^ (n.toNat * i) % 2 ^ n.toNat := by
        apply Nat.eq_of_testBit_eq
        intro j
        have e1 : n.toNat * (i + 1) ≤ n.toNat * h := Nat.mul_le_mul_left _ c
        rw [Nat.testBit_mod_two_pow, Nat.testBit_mod_two_pow, Nat.testBit_div_two_pow, Nat.testBit_div_two_pow, Nat.testBit_mod_two_pow]
        by_cases hj : j < n.toNat
        · have : j + n.toNat * i < n.toNat * h := by rw [Nat.mul_add] at e1; omega
          simp [hj, this]
        · simp [hj]
      have q' := congrArg (Nat.cast (R := Int)) q
      simpa using q'
    · obtain ⟨t, e⟩ := b3 (i - h) (by omega)
      refine ⟨t, ?_⟩
      have ei : (l + (h : Int)).toNat + (i - h) = l.toNat + i := by omega
      rw [← ei, e]
      congr 2
      obtain ⟨z, rfl⟩ := Int.eq_ofNat_of_zero_le hy
      have q : (z / 2 ^ (n.toNat * h) / 2 ^ (n.toNat * (i - h)) : Nat) = z / 2 ^ (n.toNat * i) := by
        rw [Nat.div_div_eq_div_mul, ← Nat.pow_add, ← Nat.mul_add]
        congr 3; omega
      have q' := congrArg (Nat.cast (R := Int)) q
      have : (z : Int) / 2 ^ (n.toNat * h) / 2 ^ (n.toNat * (i - h)) = (z : Int) / 2 ^ (n.toNat * i) := by simpa using q'
      rw [this]
end Mine.Internal
end
noncomputable section -- Kmulk
open PySem PySem.W PyProof.Rows
namespace Mine.Internal
section
variable {prog : Program} {w : World} {A : Around} {E : Value → Shared → Prop} {s : Shared} {h₀ : Heap} {L : Addr} {m : Str → Option Value} {news : List (Addr × Obj)} {l : Addr} {v : Value} {x : Int} {u : Tok} {Q : Value → Shared → Prop}
theorem mulRep {k : Nat} {ws : List Value} (Fm : Fr h₀ L s.heap m) (N : News h₀ L s.heap news) (hl : s.heap.IsList l [v].toArray) (hx : x = (k : Int)) (hk : k ≤ 200) (e : List.replicate k v = ws)
    (h : ∀ D h', Fr h₀ L h' m → News h₀ L h' ((D, W.listOf ws.toArray 0) :: news) → (∀ p ∈ news, p.1 < D) → Q (.ref D) { s with heap := h' }) : wpAny (model prog w) A (binaryOp .Mult (.ref l) (.int x u)) Q E s := by
  subst hx e
  refine KMa.mul Fm N hl (by omega) (by omega) (by simp; omega) ?_ h
  rw [Int.toNat_natCast]
  clear h
  induction k with
  | zero => rfl
  | succ k ih => rw [List.replicate_succ, List.replicate_succ, List.flatten_cons, ih (by omega)]; rfl
end
end Mine.Internal
end
end
noncomputable section -- Ki2d
theorem Mine.Internal.wTopOff4 : True := by w_top off; trivial
local macro_rules
  | `(tactic| walk_at $s:str) => match [("eval BinOp", "#bin"), ("spliced", "#args"), ("isTrue Compare", "#cmp"), ("exec Assign", "#asg"), ("exec Return some", "#ret"), ("storeName", "#sto"), ("#step", "#st0"), ("#on", "#skip"), ("call ref", "#crKi2d"), ("#om", "#omKi2d"), ("binaryOp Mult ref int", "#o1Ki2d"), ("setItem ref int", "#o2Ki2d"), ("call builtin:len", "#o3Ki2d"), ("exec FunctionDef", "#o4Ki2d")].lookup s.getString with
    | some r => `(tactic| walk_at $(Lean.Syntax.mkStrLit r))
    | none => Lean.Macro.throwUnsupported
theorem Mine.Internal.kwN_Ki2d : True := by
  k_with "#omKi2d" => (first | (with_reducible first | assumption | walk_at "#nz" | exact Nat.succ_le_of_lt ‹_› | exact Mine.Internal.u0 ‹_› | exact Mine.Internal.u1 ‹_› (by decide) | exact Mine.Internal.u2 ‹_› (by decide) | exact Mine.Internal.u3 ‹_› (by decide) | exact Mine.Internal.leC ‹_› (by decide) | exact Mine.Internal.ltC ‹_› (by decide) | exact Mine.Internal.ltD ‹_› (by decide) | exact Mine.Internal.leD ‹_› (by decide) | exact Mine.Internal.iltC ‹_› (by decide) | exact Mine.Internal.ileC ‹_› (by decide) | exact Mine.Internal.iltD ‹_› (by decide) | exact Mine.Internal.ileD ‹_› (by decide) | exact Mine.Internal.igtC ‹_› (by decide) | exact Mine.Internal.igeC ‹_› (by decide) | exact Mine.Internal.igtP ‹_› (by decide) | exact Mine.Internal.igeP ‹_› (by decide) | exact Mine.Internal.cltC ‹_› (by decide) | exact Mine.Internal.cleC ‹_› (by decide) | exact Mine.Internal.cgtC (by decide) | exact Mine.Internal.cgeC (by decide) | exact Mine.Internal.leE ‹_› ‹_› (by decide) | exact Mine.Internal.ltE ‹_› ‹_› (by decide) | exact Mine.Internal.cltE ‹_› ‹_› (by decide) | exact Mine.Internal.cltF ‹_› ‹_› (by decide) | exact Mine.Internal.cleF ‹_› ‹_› (by decide) | exact Mine.Internal.leF ‹_› ‹_› (by decide) | fail "om: none"))
  trivial
theorem Mine.Internal.kwO_Ki2d : True := by
  k_with "#omKi2d" => (with_reducible first | assumption | exact Mine.Internal.oA ‹_› ‹_› ‹_› ‹_› | exact Mine.Internal.oB ‹_› ‹_› ‹_› ‹_› | exact Mine.Internal.oC ‹_› ‹_› ‹_› | exact Mine.Internal.oD ‹_› ‹_› | exact Mine.Internal.oE ‹_› ‹_› | exact Mine.Internal.oF | exact Mine.Internal.oF' | exact Mine.Internal.oG ‹_› ‹_› | exact Mine.Internal.oH ‹_› | exact Mine.Internal.oI ‹_› | exact Mine.Internal.oJ ‹_› | exact Mine.Internal.oK ‹_› ‹_› ‹_› | exact Mine.Internal.oL ‹_› ‹_› ‹_› | exact Mine.Internal.oM | exact Mine.Internal.oN ‹_› | exact Mine.Internal.oO ‹_› ‹_› | exact Mine.Internal.oP ‹_› ‹_› | exact Mine.Internal.oQ ‹_› ‹_› | exact Mine.Internal.oR ‹_› | exact Mine.Internal.oS ‹_› | exact Mine.Internal.oT | exact Mine.Internal.oU ‹_› | exact Mine.Internal.oV ‹_› | exact Mine.Internal.oW ‹_› ‹_› | exact Mine.Internal.oX ‹_› ‹_› | exact Mine.Internal.oY ‹_› ‹_› | exact Mine.Internal.oZ ‹_› | exact Mine.Internal.pA ‹_› | exact Mine.Internal.pB ‹_› ‹_› | exact Mine.Internal.pC ‹_› ‹_› | exact Mine.Internal.pD ‹_› ‹_› | exact Mine.Internal.pE ‹_› | exact Mine.Internal.pF ‹_› | exact Mine.Internal.pG ‹_› | exact Mine.Internal.pH ‹_› | exact Mine.Internal.pI | exact Mine.Internal.pJ ‹_› ‹_› | exact Mine.Internal.pJ' ‹_› | exact Mine.Internal.pK ‹_› ‹_› ‹_› | exact Mine.Internal.pL ‹_› ‹_› ‹_› | exact Mine.Internal.pM ‹_› ‹_› ‹_› | exact Mine.Internal.pN ‹_› | exact Mine.Internal.pO ‹_› | exact Mine.Internal.pP ‹_› | exact Mine.Internal.pQ ‹_› | exact Mine.Internal.pR ‹_› ‹_› ‹_› ‹_› | fail "om: none")
  trivial
open PySem PySem.W PyProof.Rows
namespace Mine.Internal
set_option Elab.async false
theorem Mine.Internal.kw1_Ki2d : True := by
  k_with "#o1Ki2d" => (k_here; (with_reducible show wpAny _ _ (binaryOp Operator.Mult (Value.ref _) (Value.int _ _)) _ _ _); k_dflt (refine' mulRep ?F ?N ?l ?hx ?hk ?e ?_; (case F => k_asm); (case N => k_asm); (case l => is_list); (case hx => assumption); (case hk => omega); (case e => exact rfl); k_whole); intro _ _ _ _ l1; (try k_lt l1); revert l1; intro _; (try k_sweep))
  k_with "#o2Ki2d" => (k_here; (with_reducible show wpAny _ _ (setItem (Value.ref _) (Value.int _ _) _) _ _ _); k_dflt (refine' setItem_U ?F ?N ?U ?h0 ?h1 ?h2 ?_; (case F => k_asm); (case N => k_asm); (case U => k_upd); (case h0 => omega); (case h1 => omega); (case h2 => omega); k_whole); intro _ _ _; (try k_sweep))
  k_with "#o3Ki2d" => (k_here; (with_reducible show wpAny _ _ (call (Value.builtin _) [Value.ref _]) _ _ _); k_dflt (refine' len_list ?l ?f ?_; (case l => is_list); (case f => (simp only [List.size_toArray, List.length_replicate]; omega)); k_whole))
  trivial
noncomputable def DigsAre (its : Array Value) (x n : Int) (k : Nat) : Prop := its.size = k ∧ ∀ i : Nat, i < k → ∃ t, its[i]? = some (.int (x / 2 ^ (n.toNat * i) % 2 ^ n.toNat) t)
theorem DigsAre.of {its0 its : Array Value} {x n : Int} {k : Nat} (h : Filled its0 its 0 k x n) (h0 : its0.size = k) : DigsAre its x n k := by
  obtain ⟨a, _, c⟩ := h
  refine ⟨a.trans h0, fun i hi => ?_⟩
  obtain ⟨t, e⟩ := c i hi
  exact ⟨t, by simpa using e⟩
theorem Mine.Internal.kw4_Ki2d : True := by
  k_with "#o4Ki2d" => (k_here; kn_here; k_dflt (refine' nestDef_K ?d0 ?k0 ?a0 ?_; (case d0 => exact rfl); (case k0 => exact rfl); (case a0 => exact rfl)); k_dflt (refine' Mine.Internal.nest_U ?F ?N ?T ?C ?cd ?U ?t ?q ?n ?cl ?_; (case F => k_asm); (case N => k_asm); (case T => k_asm); (case cd => exact rfl); (case C => kn_code); (case U => k_updF); (case t => assumption); (case q => exact rfl); (case n => exact fun _ => rfl); (case cl => exact rfl); k_whole); (try dsimp only); intro _ _ _ _ _ _ _ _ _ _ l1; (try k_lt l1); revert l1; intro _ l1; (try k_lt l1); revert l1; intro _ _ _)
  trivial
noncomputable def IJ (g : Heap) (o o' : Obj) (x : Addr) (p : Obj) : Prop := x ≠ 72 ∧ ∃ c, IK tab65 i2dQ g o o' c x p
noncomputable def i2d_U_k : Σ' (P1 : World → Obj → Obj → Int → Int → Nat → Tok → Tok → (ExcName → Option Value) → (Str → Option Value) → (Str → Option Value) → Nat → Nat → (Option (List Code)) → Str → Scope → Addr → Value → (List (Str × Addr)) → (List Env) → Around → Heap → Heap → Addr → (Str → Option Value) → Shared → (Value → Shared → Prop) → (Value → Shared → Prop) → Heap → Addr → Heap → Nat → Obj → Obj → Obj → Prop), (∀ w o1 T72 x n k t1 t2 mean mg mb dp un gd cn cs a ccd cl outer A₀ base h₀ L m s Q E g' L' h' tk' oA oB oN, P1 w o1 T72 x n k t1 t2 mean mg mb dp un gd cn cs a ccd cl outer A₀ base h₀ L m s Q E g' L' h' tk' oA oB oN) → ∀ (w : World) (o1 T72 : Obj) (x n : Int) (k : Nat) (t1 t2 : Tok) (mean : ExcName → Option Value) (mg mb : Str → Option Value) (dp un : Nat) (gd : Option (List Code)) (cn : Str) (cs : Scope) (a : Addr) (ccd : Value) (cl : List (Str × Addr)) (outer : List Env) (A₀ : Around) (base h₀ : Heap) (L : Addr) (m : Str → Option Value) (s : Shared) (Q E : Value → Shared → Prop), Below A₀ base outer h₀ → Fr h₀ L s.heap m → (hd.heap_1 w.params).In h₀ → News h₀ L s.heap [(65, o1), (72, T72)] → TI tab65 i2dQ h₀ o1 → Top topProg LS mean mg mb h₀ → cs.kind = .function → CodeHd h₀ 69 65 →
    (0 ≤ x ∧ x < 128 ∧ 0 < n ∧ n < 8 ∧ (↑(Builtin.Int.intBits x) + n - 1).fdiv n = (k : Int) ∧ k ≤ 7 ∧ x < 2 ^ (n.toNat * k) ∧ (x = 0 → k = 0) ∧ (x ≠ 0 → 0 < k)) → dp + 16 < recursionLimit → un + 160 < cLine →
    (∀ (d y : Addr) (p o' : Obj) (its : Array Value) (e : Nat) (hz : Heap) (tz : Nat), DigsAre its x n k → IJ h₀ o1 o' y p → Fr h₀ L hz m → News h₀ L hz [(d, W.listOf its e), (y, p), (65, o'), (72, T72)] → Q (.ref d) { s with heap := hz, toks := tz }) →
      wpAny (model P0 w) (ktrTop dp un gd cn cs L a ccd cl outer) (call (.ref 70) [.int x t1, .int n t2]) Q E s := ⟨_, by
  intro hP_1 w o1 T72 x n k t1 t2 mean mg mb dp un gd cn cs a ccd cl outer A₀ base h₀ L m s Q E
  dsimp only [P0, LS]
  k_fill
  intro B F X N hT T hk C1 hpre hdp hun hret
  obtain ⟨hp1, hp2, hp3, hp4, hk3, hk7, hxk, hx0, hx1⟩ := hpre
  refine wpAny_call ?_
  k_dflt (refine' code_defC ?k1 ?k2 ?k3 ?k4 ?k5 ?kA ?kF ?kK ?k6 ?k7 ?k8 ?k9 ?kB ?kD ?_ ?c2 ?c3 ?c4; (case kA => exact rfl); (case kF => exact rfl); (case kK => assumption); (case k1 => k_asm); (case k2 => k_asm); (case k3 => k_asm); (case k4 => k_asm); (case k5 => k_asm); (case k6 => k_is); (case k7 => k_is); (case k8 => ktr_room); (case k9 => exact BindsTo.of_eq rfl); (case kB => exact rfl); (case kD => decide +kernel); (case c2 => exact rfl); (case c3 => exact rfl); (case c4 => exact rfl); k_whole; intro g' L' h' tk' cells' FG' F' N' Y' B' X' T' l1; (try k_lt l1); k_cells Y'; (try simp only [List.cons_append, List.nil_append] at N'); (try dsimp only); (try k_lift B'); (try k_fold))
  rename_i oA oB oN dA dB dN
  revert B F X N hT T hk C1 hdp hun hret hp1 hp2 hp3 hp4 hk3 hk7 hxk hx0 hx1 FG' F' B' X' T' l1 dA dB dN N'
  exact hP_1 w o1 T72 x n k t1 t2 mean mg mb dp un gd cn cs a ccd cl outer A₀ base h₀ L m s Q E g' L' h' tk' oA oB oN⟩
noncomputable def i2d_U_R (z : Sk) : Prop := i2d_U_k.1 (z.w 0) (z.o 0) (z.o 1) (z.i 0) (z.i 1) (z.n 0) (z.t 0) (z.t 1) (z.em 0) (z.m 0) (z.m 1) (z.n 1) (z.n 2) (z.oc 0) (z.x 0) (z.sc 0) (z.a 0) (z.v 0) (z.sa 0) (z.le 0) (z.ar 0) (z.h 0) (z.h 1) (z.a 1) (z.m 2) (z.s 0) (z.q 0) (z.q 1) (z.h 2) (z.a 2) (z.h 3) (z.n 3) (z.o 2) (z.o 3) (z.o 4)
namespace i2d_U_c
def w := (skv i2d_U_R).w 0
def o1 := (skv i2d_U_R).o 0
def T72 := (skv i2d_U_R).o 1
def x := (skv i2d_U_R).i 0
def n := (skv i2d_U_R).i 1
def k := (skv i2d_U_R).n 0
def t2 := (skv i2d_U_R).t 1
def mean := (skv i2d_U_R).em 0
def mg := (skv i2d_U_R).m 0
def mb := (skv i2d_U_R).m 1
def dp := (skv i2d_U_R).n 1
def un := (skv i2d_U_R).n 2
def gd := (skv i2d_U_R).oc 0
def cn := (skv i2d_U_R).x 0
def cs := (skv i2d_U_R).sc 0
def a := (skv i2d_U_R).a 0
def ccd := (skv i2d_U_R).v 0
def cl := (skv i2d_U_R).sa 0
def outer := (skv i2d_U_R).le 0
def A₀ := (skv i2d_U_R).ar 0
def base := (skv i2d_U_R).h 0
def h₀ := (skv i2d_U_R).h 1
def L := (skv i2d_U_R).a 1
def m := (skv i2d_U_R).m 2
def s := (skv i2d_U_R).s 0
def Q := (skv i2d_U_R).q 0
def E := (skv i2d_U_R).q 1
def g' := (skv i2d_U_R).h 2
def L' := (skv i2d_U_R).a 2
def h' := (skv i2d_U_R).h 3
def tk' := (skv i2d_U_R).n 3
def oN := (skv i2d_U_R).o 4
noncomputable def r1_k : Σ' (P1 : Addr → Heap → Addr → Heap → Heap → Obj → Nat → Addr → Addr → Addr → Obj → Obj → Value → Value → Heap → Nat → Heap → Obj → Prop), (∀ lq hq1 D' hq2 hq3 oD tk f' c' x' p' u' ctq dcq hq4 tkq hq5 oF, P1 lq hq1 D' hq2 hq3 oD tk f' c' x' p' u' ctq dcq hq4 tkq hq5 oF) → i2d_U_k.1 w o1 T72 x n k ((skv i2d_U_R).t 0) t2 mean mg mb dp un gd cn cs a ccd cl outer A₀ base h₀ L m s Q E g' L' h' tk' ((skv i2d_U_R).o 2) ((skv i2d_U_R).o 3) oN := ⟨_, by
  intro hP_1 
  intro B F X N hT T hk C1 hdp hun hret hp1 hp2 hp3 hp4 hk3 hk7 hxk hx0 hx1 FG' F' B' X' T' l1 dA dB dN N'
  have C1g : CodeHd g' 69 65 := C1.keeps FG'.keep
  have hTg : TI tab65 i2dQ g' o1 := hT.mono FG'.keep
  w_on
  k_steps
  · (with_reducible rename News _ _ _ _ => kN)
    refine nameNews kN (fun fo hfo kN => ?_)
    rename_i lq hq1 lz D' hq2 lD hq3 oD dD f' c' x' p' u' ctq dcq hq4 tkq hI' lc lf hq5 oF F9 kN9 dF hx
    have dn : oN.data = Data.cell (some (Value.int n t2)) := dN
    clear dA dB dN kN9
    have hcx := hI'.crx
    revert B F X N hT T hk C1 hdp hun hret hp1 hp2 hp3 hp4 hk3 hk7 hxk hx0 hx1 FG' B' X' T' l1 C1g hTg lz lD dD hI' lc lf F9 dF hx fo hfo kN dn hcx
    exact hP_1 lq hq1 D' hq2 hq3 oD tk f' c' x' p' u' ctq dcq hq4 tkq hq5 oF
  · have e0 : x = 0 := by omega
    have e1 := hx0 e0
    (with_reducible rename IK _ _ _ _ _ _ _ _ => hI')
    refine hret _ _ _ _ _ _ _ _ ?_ ⟨Nat.ne_of_gt (by omega), _, hI'.base tab0_65 tabI_65 hT⟩ (by assumption) (cb_drop (by assumption) (by kcj_all))
    exact ⟨by simp, fun i hi => by omega⟩⟩
noncomputable def r1_R (z : Sk) : Prop := r1_k.1 (z.a 0) (z.h 0) (z.a 1) (z.h 1) (z.h 2) (z.o 0) (z.n 0) (z.a 2) (z.a 3) (z.a 4) (z.o 1) (z.o 2) (z.v 0) (z.v 1) (z.h 3) (z.n 1) (z.h 4) (z.o 3)
namespace r1_c
def lq := (skv r1_R).a 0
def D' := (skv r1_R).a 1
def oD := (skv r1_R).o 0
def f' := (skv r1_R).a 2
def c' := (skv r1_R).a 3
def x' := (skv r1_R).a 4
def p' := (skv r1_R).o 1
def oF := (skv r1_R).o 3
noncomputable def r2_k : Σ' (P1 : Obj → Obj → Tok → Tok → Tok → (Array Value) → Nat → (ExcName → Option Value) → (Str → Option Value) → (Str → Option Value) → Nat → Nat → (Option (List Code)) → Str → Scope → Addr → Value → (List (Str × Addr)) → (List Env) → Around → Heap → Heap → Addr → (Str → Option Value) → Shared → (Value → Shared → Prop) → (Value → Shared → Prop) → Heap → Addr → Heap → Prop), Σ' (P2 : (Array Value) → Heap → Nat → Prop), (∀ T65 T72 ty tl tr its e mean mg mb dp un gd cn cs a ccd cl outer A₀ base h₀ L m s Q E g' L' h', P1 T65 T72 ty tl tr its e mean mg mb dp un gd cn cs a ccd cl outer A₀ base h₀ L m s Q E g' L' h') → (∀ its1 h1 tk1, P2 its1 h1 tk1) → r1_k.1 lq ((skv r1_R).h 0) D' ((skv r1_R).h 1) ((skv r1_R).h 2) oD ((skv r1_R).n 0) f' c' x' p' ((skv r1_R).o 2) ((skv r1_R).v 0) ((skv r1_R).v 1) ((skv r1_R).h 3) ((skv r1_R).n 1) ((skv r1_R).h 4) oF := ⟨_, _, by
  intro hP_1 hP_2 
  intro B F X N hT T hk C1 hdp hun hret hp1 hp2 hp3 hp4 hk3 hk7 hxk hx0 hx1 FG' B' X' T' l1 C1g hTg lz lD dD hI' lc lf F9 dF hx fo hfo kN dn hcx
  have key : ∀ (T65 T72 : Obj) (sz : Nat) (y l r : Int) (ty tl tr : Tok) (its : Array Value) (e : Nat)
      (mean : ExcName → Option Value) (mg mb : Str → Option Value) (dp un : Nat) (gd : Option (List Code)) (cn : Str) (cs : Scope) (a : Addr) (ccd : Value) (cl : List (Str × Addr)) (outer : List Env) (A₀ : Around) (base h₀ : Heap) (L : Addr) (m : Str → Option Value) (s : Shared) (Q E : Value → Shared → Prop),
      Below A₀ base outer h₀ → Fr h₀ L s.heap m → (hd.heap_1 w.params).In h₀ → News h₀ L s.heap [(f', fo), (x', p'), (D', W.listOf its e), (lq, W.listOf #[Value.int 0 tk'] 0), (L' + 1 + 1 + 1, oF), (L' + 1 + 1, oD), (L' + 1, oN), (65, T65), (72, T72)] → Top topProg LS mean mg mb h₀ → cs.kind = .function → CodeHd h₀ 69 65 → CRx i2dQ h₀ c' x' p' →
      (0 ≤ l ∧ r = l + sz ∧ 0 < sz ∧ r ≤ its.size ∧ 0 ≤ y ∧ y < 2 ^ (n.toNat * sz) ∧ sz ≤ 7 ∧ its.size ≤ 7 ∧ y < 128) → dp + (4 + sz) < recursionLimit → un + (40 + 8 * sz) < cLine →
      (∀ (its' : Array Value) (hz : Heap) (tz : Nat), Filled its its' l sz y n → Fr h₀ L hz m → News h₀ L hz [(f', fo), (x', p'), (D', W.listOf its' e), (lq, W.listOf #[Value.int 0 tk'] 0), (L' + 1 + 1 + 1, oF), (L' + 1 + 1, oD), (L' + 1, oN), (65, T65), (72, T72)] → Q .none { s with heap := hz, toks := tz }) →
      wpAny (model P0 w) (ktrTop dp un gd cn cs L a ccd cl outer) (call (.ref f') [.int y ty, .int l tl, .int r tr]) Q E s := by
    clear hret kN F9 B' X' T' C1g C1 B F X N T FG' hTg hT hcx hI'
    intro T65 T72 sz
    induction sz using Nat.strongRecOn with
    | ind sz IH =>
    intro y l r ty tl tr its e mean mg mb dp un gd cn cs a ccd cl outer A₀ base h₀ L m s Q E B F X N T hk C hcc hpre hdp hun hret
    obtain ⟨hl0, hr, hs0, hri, hy0, hy1, hs7, hits, hy2⟩ := hpre
    have hmid : (l + r).fdiv (2 ^ Int.toNat 1) = l + ((sz / 2 : Nat) : Int) := by
      rw [show (2 : Int) ^ Int.toNat 1 = 2 from rfl, Int.fdiv_eq_ediv_of_nonneg _ (by decide)]
      omega
    have hshe : ((l + r).fdiv (2 ^ Int.toNat 1) - l) * n = ((sz / 2 : Nat) : Int) * n := by rw [hmid]; congr 1; omega
    have hsh0 : 0 ≤ ((l + r).fdiv (2 ^ Int.toNat 1) - l) * n := by rw [hshe]; exact Int.mul_nonneg (by omega) (by omega)
    have hsh1 : ((l + r).fdiv (2 ^ Int.toNat 1) - l) * n ≤ 21 := by
      rw [hshe]
      have e1 : ((sz / 2 : Nat) : Int) * n ≤ 3 * n := Int.mul_le_mul_of_nonneg_right (by omega) (by omega)
      omega
    have hup0 : 0 ≤ y.fdiv (2 ^ (((l + r).fdiv (2 ^ Int.toNat 1) - l) * n).toNat) := Int.fdiv_nonneg hy0 (Int.le_of_lt (Int.pow_pos (by decide)))
    have hup1 : y.fdiv (2 ^ (((l + r).fdiv (2 ^ Int.toNat 1) - l) * n).toNat) < 128 := by
      rw [Int.fdiv_eq_ediv_of_nonneg _ (Int.le_of_lt (Int.pow_pos (by decide)))]
      exact Int.lt_of_le_of_lt (Int.ediv_le_self _ hy0) hy2
    have hmid0 : 0 ≤ (l + r).fdiv (2 ^ Int.toNat 1) := by rw [hmid]; omega
    subst hfo
    refine wpAny_call ?_
    k_dflt (refine' code_nest ?k1 ?k2 ?k3 ?k4 ?k5 ?kA ?kF ?kK ?k6 ?k7 ?k8 ?k9 ?kB ?_ ?c2 ?c3 ?c4 ?c5; (case kA => exact rfl); (case kF => exact rfl); (case kK => assumption); (case k1 => k_asm); (case k2 => k_asm); (case k3 => k_asm); (case k4 => k_asm); (case k5 => k_asm); (case k6 => exact List.mem_cons_self); (case k7 => exact hcc.at F.keep (N _ (.tail _ (.head _))).1); (case k8 => ktr_room); (case k9 => exact BindsTo.of_eq rfl); (case c5 => decide); (case kB => exact locs rfl); (case c2 => exact rfl); (case c3 => exact rfl); (case c4 => exact rfl); k_whole; intro g' L' h' FG' F' N' B' X' T'; (try dsimp only); (try k_lift B'); (try k_fold))
    have C9 : CodeHd g' 69 65 := C.keeps FG'.keep
    have hcc9 := hcc.mono FG'.keep
    have hS : (((l + r).fdiv (2 ^ Int.toNat 1) - l) * n).toNat = n.toNat * (sz / 2) := by
      rw [hshe, Int.toNat_mul (by omega) (by omega), Int.toNat_natCast, Nat.mul_comm]
    have hlow : Builtin.bitXor y (y.fdiv (2 ^ (((l + r).fdiv (2 ^ Int.toNat 1) - l) * n).toNat) * 2 ^ (((l + r).fdiv (2 ^ Int.toNat 1) - l) * n).toNat) = y % 2 ^ (n.toNat * (sz / 2)) := by rw [xor_low _ _ hy0, hS]
    have hlow0 : 0 ≤ y % 2 ^ (n.toNat * (sz / 2)) := Int.emod_nonneg _ (Int.ne_of_gt (Int.pow_pos (by decide)))
    have hlow1 : y % 2 ^ (n.toNat * (sz / 2)) < 2 ^ (n.toNat * (sz / 2)) := Int.emod_lt_of_pos _ (Int.pow_pos (by decide))
    have hlow2 : y % 2 ^ (n.toNat * (sz / 2)) < 128 := by
      have h1 := Int.mul_ediv_add_emod y (2 ^ (n.toNat * (sz / 2)))
      have h2 : 0 ≤ 2 ^ (n.toNat * (sz / 2)) * (y / 2 ^ (n.toNat * (sz / 2))) := Int.mul_nonneg (Int.le_of_lt (Int.pow_pos (by decide))) (Int.ediv_nonneg hy0 (Int.le_of_lt (Int.pow_pos (by decide))))
      generalize 2 ^ (n.toNat * (sz / 2)) * (y / 2 ^ (n.toNat * (sz / 2))) = q9 at h1 h2
      omega
    have hupe : y.fdiv (2 ^ (((l + r).fdiv (2 ^ Int.toNat 1) - l) * n).toNat) = y / 2 ^ (n.toNat * (sz / 2)) := by rw [hS, Int.fdiv_eq_ediv_of_nonneg _ (Int.le_of_lt (Int.pow_pos (by decide)))]
    have hup2 : y / 2 ^ (n.toNat * (sz / 2)) < 2 ^ (n.toNat * (sz - sz / 2)) := by
      apply Int.ediv_lt_of_lt_mul (Int.pow_pos (by decide))
      rw [← Int.pow_add, ← Nat.mul_add]
      have : sz - sz / 2 + sz / 2 = sz := by omega
      rw [this]; exact hy1
    rename_i hkzz2y1 hdpzz2y2 hunzz2y3
    revert hkzz2y1 hdpzz2y2 hunzz2y3 hp1 hp2 hp3 hp4 hk3 hk7 hxk hx0 hx1 l1 lz lD dD lc lf dF hx dn sz y l r B F X T hk C hcc hdp hun hl0 hr hs0 hri hy0 hy1 hs7 hits hy2 hmid hshe hsh0 hsh1 hup0 hup1 hmid0 IH N hret FG' F' N' B' X' T' qk ek C9 hcc9 hS hlow hlow0 hlow1 hlow2 hupe hup2
    exact hP_1 T65 T72 ty tl tr its e mean mg mb dp un gd cn cs a ccd cl outer A₀ base h₀ L m s Q E g' L' h'
  k_here
  (simp only [List.nil_append])
  k_dflt (refine' key _ _ k _ _ _ _ _ _ _ _ _ _ _ _ _ _ _ _ _ _ _ _ _ _ _ _ _ _ _ _ ?k1 ?k2 ?k3 ?k4 ?k5 ?k6 ?k7 ?kc ?k8 ?k9 ?k10 ?_; (case k1 => k_asm); (case k2 => k_asm); (case k3 => k_asm); (case k4 => k_asm); (case k5 => k_asm); (case k6 => exact rfl); (case k7 => k_asm); (case kc => assumption); (case k8 => exact ⟨by omega, by simp, hx1 hx, by simp, hp1, hxk, hk7, by simpa using hk7, hp2⟩); (case k9 => ktr_room); (case k10 => ktr_units); k_whole; intro its1 h1 tk1 hF1 F1 N1)
  (try dsimp only)
  (try k_fold)
  clear key
  subst hfo
  revert B F X N hT T hk C1 hdp hun hret hp1 hp2 hp3 hp4 hk3 hk7 hxk hx0 hx1 FG' B' X' T' l1 C1g hTg lz lD dD hI' lc lf F9 dF hx dn hcx hF1 F1 qk ek kN N1
  exact hP_2 its1 h1 tk1⟩
noncomputable def r2_R1 (z : Sk) : Prop := r2_k.1 (z.o 0) (z.o 1) (z.t 0) (z.t 1) (z.t 2) (z.av 0) (z.n 0) (z.em 0) (z.m 0) (z.m 1) (z.n 1) (z.n 2) (z.oc 0) (z.x 0) (z.sc 0) (z.a 0) (z.v 0) (z.sa 0) (z.le 0) (z.ar 0) (z.h 0) (z.h 1) (z.a 1) (z.m 2) (z.s 0) (z.q 0) (z.q 1) (z.h 2) (z.a 2) (z.h 3)
namespace r2_c1
theorem r3 : r2_k.1 ((skv r2_R1).o 0) ((skv r2_R1).o 1) ((skv r2_R1).t 0) ((skv r2_R1).t 1) ((skv r2_R1).t 2) ((skv r2_R1).av 0) ((skv r2_R1).n 0) ((skv r2_R1).em 0) ((skv r2_R1).m 0) ((skv r2_R1).m 1) ((skv r2_R1).n 1) ((skv r2_R1).n 2) ((skv r2_R1).oc 0) ((skv r2_R1).x 0) ((skv r2_R1).sc 0) ((skv r2_R1).a 0) ((skv r2_R1).v 0) ((skv r2_R1).sa 0) ((skv r2_R1).le 0) ((skv r2_R1).ar 0) ((skv r2_R1).h 0) ((skv r2_R1).h 1) ((skv r2_R1).a 1) ((skv r2_R1).m 2) ((skv r2_R1).s 0) ((skv r2_R1).q 0) ((skv r2_R1).q 1) ((skv r2_R1).h 2) ((skv r2_R1).a 2) ((skv r2_R1).h 3) := by
  intro hkzz2y1 hdpzz2y2 hunzz2y3 hp1 hp2 hp3 hp4 hk3 hk7 hxk hx0 hx1 l1 lz lD dD lc lf dF hx dn sz y l r B F X T hk C hcc hdp hun hl0 hr hs0 hri hy0 hy1 hs7 hits hy2 hmid hshe hsh0 hsh1 hup0 hup1 hmid0 IH N hret FG' F' N' B' X' T' qk ek C9 hcc9 hS hlow hlow0 hlow1 hlow2 hupe hup2
  k_with "#crKi2d" => (k_here; (simp only [List.nil_append]); k_dflt (first
    | (refine' IH (sz / 2) (by omega) _ _ _ _ _ _ _ _ _ _ _ _ _ _ _ _ _ _ _ _ _ _ _ _ _ _ _ _ ?k1 ?k2 ?k3 ?k4 ?k5 ?k6 ?k7 ?kc ?k8 ?k9 ?k10 ?_; (case k1 => k_asm); (case k2 => k_asm); (case k3 => k_asm); (case k4 => k_asm); (case k5 => k_asm); (case k6 => exact rfl); (case k7 => k_asm); (case kc => assumption); (case k8 => exact ⟨hl0, hmid, by omega, by omega, by rw [hlow]; exact hlow0, by rw [hlow]; exact hlow1, by omega, hits, by rw [hlow]; exact hlow2⟩); (case k9 => ktr_room); (case k10 => ktr_units); k_whole; intro its1 h1 tk1 hF1 F1 N1)
    | (refine' IH (sz - sz / 2) (by omega) _ _ _ _ _ _ _ _ _ _ _ _ _ _ _ _ _ _ _ _ _ _ _ _ _ _ _ _ ?k1 ?k2 ?k3 ?k4 ?k5 ?k6 ?k7 ?kc ?k8 ?k9 ?k10 ?_; (case k1 => k_asm); (case k2 => k_asm); (case k3 => k_asm); (case k4 => k_asm); (case k5 => k_asm); (case k6 => exact rfl); (case k7 => k_asm); (case kc => assumption); (case k8 => exact ⟨hmid0, by omega, by omega, by rw [hF1.1]; exact hri, hup0, by rw [hupe]; exact hup2, by omega, by rw [hF1.1]; exact hits, hup1⟩); (case k9 => ktr_room); (case k10 => ktr_units); k_whole; intro its2 h2 tk2 hF2 F2 N2)); (try dsimp only); (try k_fold))
  k_steps
  · have e1 : sz = 1 := by omega
    subst e1
    exact hret _ _ _ (filled_one hl0 (by omega) hy0 hy1) (by assumption) (by assumption)
  · rw [hlow] at hF1
    rw [hupe, hmid] at hF2
    exact hret _ _ _ (filled_two hl0 (by omega) hy0 hF1 hF2) (by assumption) (by assumption)
end r2_c1
noncomputable def r2_R2 (z : Sk) : Prop := r2_k.2.1 (z.av 0) (z.h 0) (z.n 0)
namespace r2_c2
theorem r4 : r2_k.2.1 ((skv r2_R2).av 0) ((skv r2_R2).h 0) ((skv r2_R2).n 0) := by
  intro B F X N hT T hk C1 hdp hun hret hp1 hp2 hp3 hp4 hk3 hk7 hxk hx0 hx1 FG' B' X' T' l1 C1g hTg lz lD dD hI' lc lf F9 dF hx dn hcx hF1 F1 qk ek kN N1
  k_steps
  exact hret _ _ _ _ _ _ _ _ (DigsAre.of hF1 (by simp)) ⟨Nat.ne_of_gt (by omega), _, hI'.base tab0_65 tabI_65 hT⟩ (by assumption) (cb_drop (by assumption) (by kcj_all))
end r2_c2
theorem r2  : r1_k.1 lq ((skv r1_R).h 0) D' ((skv r1_R).h 1) ((skv r1_R).h 2) oD ((skv r1_R).n 0) f' c' x' p' ((skv r1_R).o 2) ((skv r1_R).v 0) ((skv r1_R).v 1) ((skv r1_R).h 3) ((skv r1_R).n 1) ((skv r1_R).h 4) oF :=
  r2_k.2.2 (fun T65 T72 ty tl tr its e mean mg mb dp un gd cn cs a ccd cl outer A₀ base h₀ L m s Q E g' L' h' => skva r2_R1 r2_c1.r3 (sk_o T65 <| sk_o T72 <| sk_t ty <| sk_t tl <| sk_t tr <| sk_av its <| sk_n e <| sk_em mean <| sk_m mg <| sk_m mb <| sk_n dp <| sk_n un <| sk_oc gd <| sk_x cn <| sk_sc cs <| sk_a a <| sk_v ccd <| sk_sa cl <| sk_le outer <| sk_ar A₀ <| sk_h base <| sk_h h₀ <| sk_a L <| sk_m m <| sk_s s <| sk_q Q <| sk_q E <| sk_h g' <| sk_a L' <| sk_h h' <| dS)) (fun its1 h1 tk1 => skva r2_R2 r2_c2.r4 (sk_av its1 <| sk_h h1 <| sk_n tk1 <| dS)) 
end r1_c
theorem r1  : i2d_U_k.1 w o1 T72 x n k ((skv i2d_U_R).t 0) t2 mean mg mb dp un gd cn cs a ccd cl outer A₀ base h₀ L m s Q E g' L' h' tk' ((skv i2d_U_R).o 2) ((skv i2d_U_R).o 3) oN :=
  r1_k.2 (fun lq hq1 D' hq2 hq3 oD tk f' c' x' p' u' ctq dcq hq4 tkq hq5 oF => skva r1_R r1_c.r2 (sk_a lq <| sk_h hq1 <| sk_a D' <| sk_h hq2 <| sk_h hq3 <| sk_o oD <| sk_n tk <| sk_a f' <| sk_a c' <| sk_a x' <| sk_o p' <| sk_o u' <| sk_v ctq <| sk_v dcq <| sk_h hq4 <| sk_n tkq <| sk_h hq5 <| sk_o oF <| dS)) 
end i2d_U_c
theorem i2d_U (w : World) (o1 T72 : Obj) (x n : Int) (k : Nat) (t1 t2 : Tok) (mean : ExcName → Option Value) (mg mb : Str → Option Value) (dp un : Nat) (gd : Option (List Code)) (cn : Str) (cs : Scope) (a : Addr) (ccd : Value) (cl : List (Str × Addr)) (outer : List Env) (A₀ : Around) (base h₀ : Heap) (L : Addr) (m : Str → Option Value) (s : Shared) (Q E : Value → Shared → Prop) : Below A₀ base outer h₀ → Fr h₀ L s.heap m → (hd.heap_1 w.params).In h₀ → News h₀ L s.heap [(65, o1), (72, T72)] → TI tab65 i2dQ h₀ o1 → Top topProg LS mean mg mb h₀ → cs.kind = .function → CodeHd h₀ 69 65 →
    (0 ≤ x ∧ x < 128 ∧ 0 < n ∧ n < 8 ∧ (↑(Builtin.Int.intBits x) + n - 1).fdiv n = (k : Int) ∧ k ≤ 7 ∧ x < 2 ^ (n.toNat * k) ∧ (x = 0 → k = 0) ∧ (x ≠ 0 → 0 < k)) → dp + 16 < recursionLimit → un + 160 < cLine →
    (∀ (d y : Addr) (p o' : Obj) (its : Array Value) (e : Nat) (hz : Heap) (tz : Nat), DigsAre its x n k → IJ h₀ o1 o' y p → Fr h₀ L hz m → News h₀ L hz [(d, W.listOf its e), (y, p), (65, o'), (72, T72)] → Q (.ref d) { s with heap := hz, toks := tz }) →
      wpAny (model P0 w) (ktrTop dp un gd cn cs L a ccd cl outer) (call (.ref 70) [.int x t1, .int n t2]) Q E s :=
  i2d_U_k.2 (fun w o1 T72 x n k t1 t2 mean mg mb dp un gd cn cs a ccd cl outer A₀ base h₀ L m s Q E g' L' h' tk' oA oB oN => skva i2d_U_R i2d_U_c.r1 (sk_w w <| sk_o o1 <| sk_o T72 <| sk_i x <| sk_i n <| sk_n k <| sk_t t1 <| sk_t t2 <| sk_em mean <| sk_m mg <| sk_m mb <| sk_n dp <| sk_n un <| sk_oc gd <| sk_x cn <| sk_sc cs <| sk_a a <| sk_v ccd <| sk_sa cl <| sk_le outer <| sk_ar A₀ <| sk_h base <| sk_h h₀ <| sk_a L <| sk_m m <| sk_s s <| sk_q Q <| sk_q E <| sk_h g' <| sk_a L' <| sk_h h' <| sk_n tk' <| sk_o oA <| sk_o oB <| sk_o oN <| dS)) w o1 T72 x n k t1 t2 mean mg mb dp un gd cn cs a ccd cl outer A₀ base h₀ L m s Q E
end Mine.Internal
end
section
local macro_rules | `(tactic| omega) => `(tactic| lia)
noncomputable section -- KdvM
open PySem PySem.W PySem.Calls PyProof.Rows
namespace Mine.Internal
noncomputable def dval (ns : List Int) (n : Nat) (l : Nat) : Nat → Int
  | 0 => 0
  | k + 1 => dval ns n l k + ns.getD (l + k) 0 * 2 ^ (n * k)
theorem dval_split (ns : List Int) (n l h : Nat) : ∀ k, dval ns n l (h + k) = dval ns n (l + h) k * 2 ^ (n * h) + dval ns n l h
  | 0 => by simp [dval]
  | k + 1 => by
    rw [← Nat.add_assoc, dval, dval_split ns n l h k, dval, Int.add_mul, Nat.mul_add, Int.pow_add, Nat.add_assoc]
    have e : ns.getD (l + (h + k)) 0 * (2 ^ (n * h) * 2 ^ (n * k)) = ns.getD (l + (h + k)) 0 * 2 ^ (n * k) * 2 ^ (n * h) := by rw [Int.mul_assoc, Int.mul_comm (2 ^ (n * h))]
    rw [e]
    omega
theorem dval_bound (ns : List Int) (n l : Nat) (hb : ∀ x ∈ ns, 0 ≤ x ∧ x < 2 ^ n) : ∀ k, l + k ≤ ns.length → 0 ≤ dval ns n l k ∧ dval ns n l k < 2 ^ (n * k)
  | 0, _ => by simp [dval]
  | k + 1, hk => by
    obtain ⟨h1, h2⟩ := dval_bound ns n l hb k (by omega)
    have hm : ns.getD (l + k) 0 ∈ ns := by
      have hlt : l + k < ns.length := by omega
      simp [List.getD_eq_getElem?_getD, List.getElem?_eq_getElem hlt]
    obtain ⟨h3, h4⟩ := hb _ hm
    rw [dval]
    generalize ns.getD (l + k) 0 = d at h3 h4
    have hp : (0 : Int) < 2 ^ (n * k) := Int.pow_pos (by decide)
    have e1 : 0 ≤ d * 2 ^ (n * k) := Int.mul_nonneg h3 (Int.le_of_lt hp)
    have e2 : (d + 1) * 2 ^ (n * k) ≤ 2 ^ n * 2 ^ (n * k) := Int.mul_le_mul_of_nonneg_right (by omega) (Int.le_of_lt hp)
    rw [Int.add_mul, Int.one_mul] at e2
    have e3 : (2 : Int) ^ (n * (k + 1)) = 2 ^ n * 2 ^ (n * k) := by rw [← Int.pow_add]; congr 1; rw [Nat.mul_add]; omega
    rw [e3]
    constructor <;> omega
theorem dval_small (ns : List Int) (n l k : Nat) (hb : ∀ x ∈ ns, 0 ≤ x ∧ x < 2 ^ n) (hk : l + k ≤ ns.length) (hn : n ≤ 7) (h7 : k ≤ 7) : 0 ≤ dval ns n l k ∧ dval ns n l k < 562949953421312 := by
  obtain ⟨h1, h2⟩ := dval_bound ns n l hb k hk
  refine ⟨h1, Int.lt_of_lt_of_le h2 ?_⟩
  have h3 : n * k ≤ 49 := Nat.le_trans (Nat.mul_le_mul hn h7) (by decide)
  have h4 : (2 : Nat) ^ (n * k) ≤ 2 ^ 49 := Nat.pow_le_pow_right (by decide) h3
  have h5 : (((2 : Nat) ^ (n * k) : Nat) : Int) ≤ ((2 ^ 49 : Nat) : Int) := Int.ofNat_le.mpr h4
  simpa using h5
end Mine.Internal
end
end
noncomputable section -- Kd2i
theorem Mine.Internal.wTopOff5 : True := by w_top off; trivial
local macro_rules | `(tactic| walk_at "no such line") => `(tactic| fail)
local macro_rules
  | `(tactic| walk_at $s:str) => match [("eval BinOp", "#bin"), ("spliced", "#args"), ("isTrue Compare", "#cmp"), ("exec Assign", "#asg"), ("exec Return some", "#ret"), ("storeName", "#sto"), ("#step", "#st0"), ("#on", "#skip"), ("call ref", "#crKd2i"), ("#om", "#omLKd2i"), ("exec FunctionDef", "#o1Kd2i")].lookup s.getString with
    | some r => `(tactic| walk_at $(Lean.Syntax.mkStrLit r))
    | none => Lean.Macro.throwUnsupported
theorem Mine.Internal.kwM_Kd2i : True := by
  k_with "#omLKd2i" => (first | walk_at "#omKd2i" | lia)
  trivial
theorem Mine.Internal.kwN_Kd2i : True := by
  k_with "#omKd2i" => (first | decide | (with_reducible first | assumption | walk_at "#nz" | exact Nat.succ_le_of_lt ‹_› | exact Mine.Internal.u0 ‹_› | exact Mine.Internal.u1 ‹_› (by decide) | exact Mine.Internal.u2 ‹_› (by decide) | exact Mine.Internal.u3 ‹_› (by decide) | exact Mine.Internal.leC ‹_› (by decide) | exact Mine.Internal.ltC ‹_› (by decide) | exact Mine.Internal.ltD ‹_› (by decide) | exact Mine.Internal.leD ‹_› (by decide) | exact Mine.Internal.iltC ‹_› (by decide) | exact Mine.Internal.ileC ‹_› (by decide) | exact Mine.Internal.iltD ‹_› (by decide) | exact Mine.Internal.ileD ‹_› (by decide) | exact Mine.Internal.igtC ‹_› (by decide) | exact Mine.Internal.igeC ‹_› (by decide) | exact Mine.Internal.igtP ‹_› (by decide) | exact Mine.Internal.igeP ‹_› (by decide) | exact Mine.Internal.cltC ‹_› (by decide) | exact Mine.Internal.cleC ‹_› (by decide) | exact Mine.Internal.cgtC (by decide) | exact Mine.Internal.cgeC (by decide) | exact Mine.Internal.leE ‹_› ‹_› (by decide) | exact Mine.Internal.ltE ‹_› ‹_› (by decide) | exact Mine.Internal.cltE ‹_› ‹_› (by decide) | exact Mine.Internal.cltF ‹_› ‹_› (by decide) | exact Mine.Internal.cleF ‹_› ‹_› (by decide) | exact Mine.Internal.leF ‹_› ‹_› (by decide) | fail "om: none"))
  trivial
theorem Mine.Internal.kwO_Kd2i : True := by
  k_with "#omKd2i" => (with_reducible first | assumption | exact Mine.Internal.oA ‹_› ‹_› ‹_› ‹_› | exact Mine.Internal.oB ‹_› ‹_› ‹_› ‹_› | exact Mine.Internal.oC ‹_› ‹_› ‹_› | exact Mine.Internal.oD ‹_› ‹_› | exact Mine.Internal.oE ‹_› ‹_› | exact Mine.Internal.oF | exact Mine.Internal.oF' | exact Mine.Internal.oG ‹_› ‹_› | exact Mine.Internal.oH ‹_› | exact Mine.Internal.oI ‹_› | exact Mine.Internal.oJ ‹_› | exact Mine.Internal.oK ‹_› ‹_› ‹_› | exact Mine.Internal.oL ‹_› ‹_› ‹_› | exact Mine.Internal.oM | exact Mine.Internal.oN ‹_› | exact Mine.Internal.oO ‹_› ‹_› | exact Mine.Internal.oP ‹_› ‹_› | exact Mine.Internal.oQ ‹_› ‹_› | exact Mine.Internal.oR ‹_› | exact Mine.Internal.oS ‹_› | exact Mine.Internal.oT | exact Mine.Internal.oU ‹_› | exact Mine.Internal.oV ‹_› | exact Mine.Internal.oW ‹_› ‹_› | exact Mine.Internal.oX ‹_› ‹_› | exact Mine.Internal.oY ‹_› ‹_› | exact Mine.Internal.oZ ‹_› | exact Mine.Internal.pA ‹_› | exact Mine.Internal.pB ‹_› ‹_› | exact Mine.Internal.pC ‹_› ‹_› | exact Mine.Internal.pD ‹_› ‹_› | exact Mine.Internal.pE ‹_› | exact Mine.Internal.pF ‹_› | exact Mine.Internal.pG ‹_› | exact Mine.Internal.pH ‹_› | exact Mine.Internal.pI | exact Mine.Internal.pJ ‹_› ‹_› | exact Mine.Internal.pJ' ‹_› | exact Mine.Internal.pK ‹_› ‹_› ‹_› | exact Mine.Internal.pL ‹_› ‹_› ‹_› | exact Mine.Internal.pM ‹_› ‹_› ‹_› | exact Mine.Internal.pN ‹_› | exact Mine.Internal.pO ‹_› | exact Mine.Internal.pP ‹_› | exact Mine.Internal.pQ ‹_› | exact Mine.Internal.pR ‹_› ‹_› ‹_› ‹_› | fail "om: none")
  trivial
open PySem PySem.W PyProof.Rows
namespace Mine.Internal
set_option Elab.async false
theorem not_mem72 {c : Nat} (h : 72 < c) : c ∉ ([72] : List Nat) := fun hm => absurd (List.mem_singleton.mp hm) (Nat.ne_of_gt h)
theorem keep_two {h g h' : Heap} {a b : Addr} {oa ob : Obj} (hg : hideAll h [a, b] = g) (k : ∀ x o, g.get? x = some o → h'.get? x = some o) (ha : h.get? a = some oa) (hb : h.get? b = some ob) (ha' : h'.get? a = some oa) (hb' : h'.get? b = some ob) : Keep h h' := by
  intro x o e
  by_cases q1 : x = a
  · subst q1; rw [ha'] ; rw [ha] at e; exact e
  · by_cases q2 : x = b
    · subst q2; rw [hb']; rw [hb] at e; exact e
    · exact k x o (by rw [← hg]; exact hideAll_get _ e (by simp [q1, q2]))
theorem not_mem72' {c : Addr} (h : c ≠ 72) : c ∉ ([72] : List Addr) := fun hm => h (List.mem_singleton.mp hm)
theorem keepBut_hide {h g h' : Heap} {as : List Addr} (hg : hideAll h as = g) (k : ∀ x o, g.get? x = some o → h'.get? x = some o) : KeepBut as h h' := fun b o hb e => k b o (by rw [← hg]; exact hideAll_get _ e hb)
theorem Mine.Internal.kw1_Kd2i : True := by
  k_with "#o1Kd2i" => (k_here; kn_here; k_dflt (refine' nestDef_K ?d0 ?k0 ?a0 ?_; (case d0 => exact rfl); (case k0 => exact rfl); (case a0 => exact rfl)); k_dflt (refine' Mine.Internal.nest_U ?F ?N ?T ?C ?cd ?U ?t ?q ?n ?cl ?_; (case F => k_asm); (case N => k_asm); (case T => k_asm); (case cd => exact rfl); (case C => kn_code); (case U => k_updF); (case t => assumption); (case q => exact rfl); (case n => exact fun _ => rfl); (case cl => exact rfl); k_whole); (try dsimp only); intro _ _ _ _ _ _ _ _ _ _ l1; (try k_lt l1); revert l1; intro _ l1; (try k_lt l1); revert l1; intro _ _ _)
  trivial
theorem d2i_U (w : World) (o2 : Obj) (dl : Addr) (vs : List Value) (ns : List Int) (n : Int) (t1 t2 : Tok) :
    CtrT w 16 160 77 [(72, o2)] [.ref dl, .int n t2] (fun h => TI tab72 d2iQ h o2 ∧ dl ≠ 72 ∧ h.IsList dl vs.toArray ∧ IntsAre vs ns ∧ ns.length ≤ 7 ∧ 0 < n ∧ n < 8 ∧ ∀ x ∈ ns, 0 ≤ x ∧ x < 2 ^ n.toNat) 
      (fun _ s Q => ∀ (t : Tok) (hz : Heap) (tz : Nat), KeepBut [72] s.heap hz → TJ tab72 d2iQ 72 s.heap hz o2 → Q (.int (dval ns n.toNat 0 ns.length) t) { s with heap := hz, toks := tz }) := by
  dsimp only [CtrT, P0, LS]
  k_fill
  intro mean mg mb dp un gd cn cs a ccd cl outer A₀ base h₀ L m s Q E B F X N T hk C1 C2 hpre hdp hun hret
  obtain ⟨hT, hd72, hL0, hI, hn7, hp3, hp4, hb⟩ := hpre
  have hL1 : (hideAll s.heap [72]).IsList dl vs.toArray := by
    obtain ⟨o, ho, r⟩ := hL0
    exact ⟨o, hideAll_get _ ho (by simpa using hd72), r⟩
  have hTg : TI tab72 d2iQ (hideAll s.heap [72]) o2 := by
    have hT' := hT
    rcases hT with e | ⟨c, oc, e, h1, h2⟩
    · exact .inl e
    · exact .inr ⟨c, oc, e, hideAll_get _ h1 (not_mem72' (codeNe hT' (fun _ => codeQ72) (N _ (.head _)).1 h1 h2)), h2⟩
  clear hT
  refine wpAny_call ?_
  k_dflt (refine' enterTC ?k1 ?k2 ?k3 ?k4 ?k5 ?kA ?kF ?kK ?k6 ?k7 ?k8 ?k9 ?kB ?kD ?kC1 ?kC2 ?_ ?c2 ?c3 ?c4; (case kA => exact rfl); (case kF => exact rfl); (case kK => assumption); (case k1 => k_asm); (case k2 => k_asm); (case k3 => k_asm); (case k4 => k_asm); (case k5 => k_asm); (case k6 => k_is); (case k7 => k_is); (case k8 => ktr_room); (case k9 => exact BindsTo.of_eq rfl); (case kB => exact rfl); (case kD => decide +kernel); (case kC1 => assumption); (case kC2 => assumption); (case c2 => exact rfl); (case c3 => exact rfl); (case c4 => exact rfl); k_whole)
  have hg0 : hideAll s.heap (List.map (·.1) [((72 : Addr), o2)]) = hideAll s.heap [72] := rfl
  rw [hg0]
  generalize hg : hideAll s.heap [72] = g' at *
  clear C1 C2 N F B X T hg0
  intro L' h' tk' cells' F' N' Y' B' X' T' C1 C2 l1
  (try k_lt l1)
  k_cells Y'
  (try simp only [List.cons_append, List.nil_append] at N')
  (try dsimp only)
  (try k_lift B')
  (try k_fold)
  rename_i oA oN oG dA dN dG
  w_on
  k_steps
  · (with_reducible rename News _ _ _ _ => kN)
    refine nameNews kN (fun fo hfo kN => ?_)
    rename_i f' c' x' p' u' ctq dcq hq1 tkq hI' lc lf hq2 oF F9 N9 dF hx
    have dn : oN.data = Data.cell (some (Value.int n t2)) := dN
    have dg : oG.data = Data.cell (some (Value.ref dl)) := dG
    clear dA dN dG N9
    have hcx := hI'.crx
    have key : ∀ (T72 : Obj) (sz : Nat) (l r : Int) (tl tr : Tok)
        (mean : ExcName → Option Value) (mg mb : Str → Option Value) (dp un : Nat) (gd : Option (List Code)) (cn : Str) (cs : Scope) (a : Addr) (ccd : Value) (cl : List (Str × Addr)) (outer : List Env) (A₀ : Around) (base h₀ : Heap) (L : Addr) (m : Str → Option Value) (s : Shared) (Q E : Value → Shared → Prop),
        Below A₀ base outer h₀ → Fr h₀ L s.heap m → (hd.heap_1 w.params).In h₀ → News h₀ L s.heap [(f', fo), (x', p'), (L' + 1 + 1 + 1, oF), (L' + 1 + 1, oN), (L' + 1, oG), (72, T72)] → Top topProg LS mean mg mb h₀ → cs.kind = .function → CodeHd h₀ 76 72 → CRx d2iQ h₀ c' x' p' → h₀.IsList dl vs.toArray →
        (0 ≤ l ∧ r = l + sz ∧ 0 < sz ∧ r ≤ ns.length ∧ sz ≤ 7) → dp + (4 + sz) < recursionLimit → un + (40 + 8 * sz) < cLine →
        (∀ (v : Int) (t : Tok) (hz : Heap) (tz : Nat), v = dval ns n.toNat l.toNat sz → 0 ≤ v → v < 562949953421312 → Fr h₀ L hz m → News h₀ L hz [(f', fo), (x', p'), (L' + 1 + 1 + 1, oF), (L' + 1 + 1, oN), (L' + 1, oG), (72, T72)] → Q (.int v t) { s with heap := hz, toks := tz }) →
        wpAny (model P0 w) (ktrTop dp un gd cn cs L a ccd cl outer) (call (.ref f') [.int l tl, .int r tr]) Q E s := by
      clear kN F9 B' X' T' C1 C2 hL1 hL0 l1 hTg hcx hI'
      intro T72 sz
      induction sz using Nat.strongRecOn with
      | ind sz IH =>
      intro l r tl tr mean mg mb dp un gd cn cs a ccd cl outer A₀ base h₀ L m s Q E B F X N T hk C hcc hL hpre hdp hun hret
      obtain ⟨hl0, hr, hs0, hri, hs7⟩ := hpre
      have hmid : (l + r).fdiv (2 ^ Int.toNat 1) = l + ((sz / 2 : Nat) : Int) := by
        rw [show (2 : Int) ^ Int.toNat 1 = 2 from rfl, Int.fdiv_eq_ediv_of_nonneg _ (by decide)]
        omega
      have hshe : ((l + r).fdiv (2 ^ Int.toNat 1) - l) * n = ((sz / 2 : Nat) : Int) * n := by rw [hmid]; congr 1; omega
      have hsh0 : 0 ≤ ((l + r).fdiv (2 ^ Int.toNat 1) - l) * n := by rw [hshe]; exact Int.mul_nonneg (by omega) (by omega)
      have hsh1 : ((l + r).fdiv (2 ^ Int.toNat 1) - l) * n ≤ 21 := by
        rw [hshe]
        have e1 : ((sz / 2 : Nat) : Int) * n ≤ 3 * n := Int.mul_le_mul_of_nonneg_right (by omega) (by omega)
        omega
      have hmid0 : 0 ≤ (l + r).fdiv (2 ^ Int.toNat 1) := by rw [hmid]; omega
      have hS : (((l + r).fdiv (2 ^ Int.toNat 1) - l) * n).toNat = n.toNat * (sz / 2) := by
        rw [hshe, Int.toNat_mul (by omega) (by omega), Int.toNat_natCast, Nat.mul_comm]
      subst hfo
      refine wpAny_call ?_
      k_dflt (refine' code_nest ?k1 ?k2 ?k3 ?k4 ?k5 ?kA ?kF ?kK ?k6 ?k7 ?k8 ?k9 ?kB ?_ ?c2 ?c3 ?c4 ?c5; (case kA => exact rfl); (case kF => exact rfl); (case kK => assumption); (case k1 => k_asm); (case k2 => k_asm); (case k3 => k_asm); (case k4 => k_asm); (case k5 => k_asm); (case k6 => exact List.mem_cons_self); (case k7 => exact hcc.at F.keep (N _ (.tail _ (.head _))).1); (case k8 => ktr_room); (case k9 => exact BindsTo.of_eq rfl); (case c5 => decide); (case kB => exact locs rfl); (case c2 => exact rfl); (case c3 => exact rfl); (case c4 => exact rfl); k_whole; intro g' L' h' FG' F' N' B' X' T'; (try dsimp only); (try k_lift B'); (try k_fold))
      have C9 : CodeHd g' 76 72 := C.keeps FG'.keep
      have hcc9 := hcc.mono FG'.keep
      have hL9 : g'.IsList dl vs.toArray := by
        obtain ⟨o, ho, r⟩ := hL
        exact ⟨o, FG'.keep _ _ ho, r⟩
      clear hL
      k_with "#crKd2i" => (k_here; (simp only [List.nil_append]); k_dflt (first
        | (refine' IH (sz - sz / 2) (by omega) _ _ _ _ _ _ _ _ _ _ _ _ _ _ _ _ _ _ _ _ _ _ _ _ ?k1 ?k2 ?k3 ?k4 ?k5 ?k6 ?k7 ?kc ?k11 ?k8 ?k9 ?k10 ?_; (case k1 => k_asm); (case k2 => k_asm); (case k3 => k_asm); (case k4 => k_asm); (case k5 => k_asm); (case k6 => exact rfl); (case k7 => k_asm); (case kc => assumption); (case k11 => k_asm); (case k8 => exact ⟨hmid0, by omega, by omega, hri, by omega⟩); (case k9 => ktr_room); (case k10 => ktr_units); k_whole; intro v1 tv1 h1 tk1 ev1 ev1a ev1b F1 N1)
        | (refine' IH (sz / 2) (by omega) _ _ _ _ _ _ _ _ _ _ _ _ _ _ _ _ _ _ _ _ _ _ _ _ ?k1 ?k2 ?k3 ?k4 ?k5 ?k6 ?k7 ?kc ?k11 ?k8 ?k9 ?k10 ?_; (case k1 => k_asm); (case k2 => k_asm); (case k3 => k_asm); (case k4 => k_asm); (case k5 => k_asm); (case k6 => exact rfl); (case k7 => k_asm); (case kc => assumption); (case k11 => k_asm); (case k8 => exact ⟨hl0, hmid, by omega, by omega, by omega⟩); (case k9 => ktr_room); (case k10 => ktr_units); k_whole; intro v2 tv2 h2 tk2 ev2 ev2a ev2b F2 N2)); (try dsimp only); (try k_fold))
      k_steps
      · have e1 : sz = 1 := by omega
        subst e1
        have hv : ns.getD l.toNat 0 = dval ns n.toNat l.toNat 1 := by simp [dval]
        have hs := dval_small ns n.toNat l.toNat 1 hb (by omega) (by omega) (by omega)
        exact hret _ _ _ _ hv (by rw [hv]; exact hs.1) (by rw [hv]; exact hs.2) (by assumption) (by assumption)
      · have hv : v1 * 2 ^ (((l + r).fdiv (2 ^ Int.toNat 1) - l) * n).toNat + v2 = dval ns n.toNat l.toNat sz := by
          have e0 : ((l + r).fdiv (2 ^ Int.toNat 1)).toNat = l.toNat + sz / 2 := by rw [hmid]; omega
          have e1 := dval_split ns n.toNat l.toNat (sz / 2) (sz - sz / 2)
          have e2 : sz / 2 + (sz - sz / 2) = sz := by omega
          rw [e2] at e1
          rw [ev1, ev2, hS, e0, e1]
        have hs := dval_small ns n.toNat l.toNat sz hb (by omega) (by omega) hs7
        exact hret _ _ _ _ hv (by rw [hv]; exact hs.1) (by rw [hv]; exact hs.2) (by assumption) (by assumption)
    k_here
    (simp only [List.nil_append])
    k_dflt (refine' key _ ns.length _ _ _ _ _ _ _ _ _ _ _ _ _ _ _ _ _ _ _ _ _ _ _ _ ?k1 ?k2 ?k3 ?k4 ?k5 ?k6 ?k7 ?kc ?k11 ?k8 ?k9 ?k10 ?_; (case k1 => k_asm); (case k2 => k_asm); (case k3 => k_asm); (case k4 => k_asm); (case k5 => k_asm); (case k6 => exact rfl); (case k7 => k_asm); (case kc => assumption); (case k11 => k_asm); (case k8 => exact ⟨by omega, by omega, hx, by omega, hn7⟩); (case k9 => ktr_room); (case k10 => ktr_units); k_whole; intro v1 tv1 h1 tk1 ev1 ev1a ev1b F1 N1)
    clear key
    subst hfo
    subst ev1
    have n1 := N1 _ (List.mem_cons_of_mem _ List.mem_cons_self)
    have n2 := N1 _ (.tail _ (.tail _ (.tail _ (.tail _ (.tail _ (.head _))))))
    exact hret _ _ _ (keepBut_hide hg F1.keep) (hI'.tj hg F1.keep n2.1 n1.1 n1.2.2 fun _ => not_mem72 (by omega))
  · have e0 : ns = [] := List.eq_nil_of_length_eq_zero (by omega)
    subst e0
    (with_reducible rename IK _ _ _ _ _ _ _ _ => hI')
    (with_reducible rename Fr _ _ _ _ => kF)
    (with_reducible rename News _ _ _ _ => kN)
    have n1 := kN _ (List.mem_cons_of_mem _ List.mem_cons_self)
    have n2 := kN _ (.tail _ (.tail _ (.tail _ (.tail _ (.tail _ (.head _))))))
    exact hret _ _ _ (keepBut_hide hg kF.keep) (hI'.tj hg kF.keep n2.1 n1.1 n1.2.2 fun _ => not_mem72 (by omega))
end Mine.Internal
end
noncomputable section -- KtabM
open PySem PySem.W PySem.Calls PyProof.Rows
namespace Mine.Internal
structure TFa (h : Heap) (c1 : Addr) (oc1 : Obj) (vs1 : Array Value) (tq1 : Tok) (c2 : Addr) (oc2 : Obj) (vs2 : Array Value) (tq2 : Tok) : Prop where
  n1 : c1 ≠ 65
  n2 : c1 ≠ 72
  n3 : c2 ≠ 65
  n4 : c2 ≠ 72
  g1 : h.get? 65 = some (tab65 c1)
  g2 : h.get? 72 = some (tab72 c2)
  o1 : h.get? c1 = some oc1
  d1 : oc1.data = .fields vs1
  v1 : vs1[1]? = some (.str i2dQ tq1)
  o2 : h.get? c2 = some oc2
  d2 : oc2.data = .fields vs2
  v2 : vs2[1]? = some (.str d2iQ tq2)
noncomputable def TF0 (h₀ h : Heap) : Prop := ∃ c1 oc1 vs1 tq1 c2 oc2 vs2 tq2, TFa h c1 oc1 vs1 tq1 c2 oc2 vs2 tq2 ∧ h₀.get? c1 = none ∧ h₀.get? c2 = none
theorem frBut {h₀ h h' : Heap} {L : Addr} {m : Str → Option Value} {as : List Addr} {news : List (Addr × Obj)} (F : Fr h₀ L h m) (N : News h₀ L h news) (k : KeepBut as h h') (ha : ∀ a ∈ as, ∃ o, (a, o) ∈ news) : Fr h₀ L h' m := by
  refine ⟨F.ns.at' fun o e => k _ o (fun hm => ?_) e, fun b o e => k b o (fun hm => ?_) (F.keep b o e), F.above⟩
  · obtain ⟨o, ho⟩ := ha _ hm
    exact (N _ ho).2.1 rfl
  · obtain ⟨o', ho⟩ := ha _ hm
    have := (N _ ho).2.2
    dsimp only at this
    rw [e] at this; cases this
theorem newsBut {h₀ h h' : Heap} {L : Addr} {m : Str → Option Value} {as : List Addr} {news : List (Addr × Obj)} (F : Fr h₀ L h m) (N : News h₀ L h news) (k : KeepBut as h h') (ha : ∀ a ∈ as, ∃ o, (a, o) ∈ news) (news' : List (Addr × Obj))
    (hn : ∀ p ∈ news', (p ∈ news ∧ p.1 ∉ as) ∨ (p.1 ∈ as ∧ h'.get? p.1 = some p.2) ∨ (h.get? p.1 = none ∧ h'.get? p.1 = some p.2)) : News h₀ L h' news' := by
  intro p hp
  rcases hn p hp with ⟨h1, h2⟩ | ⟨h1, h2⟩ | ⟨h1, h2⟩
  · exact ⟨k _ _ h2 (N p h1).1, (N p h1).2⟩
  · obtain ⟨o, ho⟩ := ha _ h1
    exact ⟨h2, (N _ ho).2⟩
  · obtain ⟨oL, _, _, hL, _⟩ := F.ns
    refine ⟨h2, fun e => ?_, ?_⟩
    · rw [e, hL] at h1; cases h1
    · cases q : h₀.get? p.1 with
      | none => rfl
      | some o' => have := F.keep _ _ q; rw [this] at h1; cases h1
end Mine.Internal
end
noncomputable section -- Ktu
open PySem PySem.W PySem.Calls PyProof.Rows
namespace Mine.Internal
structure TP (h hz : Heap) (o1 o2 : Obj) : Prop where
  kb : KeepBut [65, 72] h hz
  t1 : TJ tab65 i2dQ 65 h hz o1
  t2 : TJ tab72 d2iQ 72 h hz o2
structure TQ (h : Heap) (o1 o2 : Obj) : Prop where
  i1 : TI tab65 i2dQ h o1
  i2 : TI tab72 d2iQ h o2
section
variable {tab : Addr → Obj} {q : Str} {a L : Addr} {o oL : Obj} {g h h' hz s : Heap} {o1 o2 : Obj}
theorem TQ.mono (t : TQ g o1 o2) (k : Keep g h) : TQ h o1 o2 := ⟨t.i1.mono k, t.i2.mono k⟩
theorem TQ.hide (t : TQ h o1 o2) (e1 : h.get? 65 = some o1) (e2 : h.get? 72 = some o2) : TQ (hideAll h [65, 72]) o1 o2 := by
  refine ⟨?_, ?_⟩
  · rcases t.i1 with e | ⟨c, oc, e, h1, h2⟩
    · exact .inl e
    · refine .inr ⟨c, oc, e, hideAll_get _ h1 fun hm => ?_, h2⟩
      rcases List.mem_cons.mp hm with x | hm
      · exact codeNe t.i1 (fun _ => codeQ65) e1 h1 h2 x
      · exact codeNe t.i2 (fun _ => codeQ72) e2 h1 h2 (List.mem_singleton.mp hm)
  · rcases t.i2 with e | ⟨c, oc, e, h1, h2⟩
    · exact .inl e
    · refine .inr ⟨c, oc, e, hideAll_get _ h1 fun hm => ?_, h2⟩
      rcases List.mem_cons.mp hm with x | hm
      · exact codeNe t.i1 (fun _ => codeQ65) e1 h1 h2 x
      · exact codeNe t.i2 (fun _ => codeQ72) e2 h1 h2 (List.mem_singleton.mp hm)
theorem noneK (k : Keep h h') {d : Addr} (hn : h'.get? d = none) : h.get? d = none := by
  cases e : h.get? d with
  | none => rfl
  | some o => rw [k _ _ e] at hn; cases hn
theorem TJ.keep (k : Keep s h) (t : TJ tab q a h hz o) : TJ tab q a s hz o := by
  obtain ⟨c, oc, h1, h2, h3, h4⟩ := t
  exact ⟨c, oc, h1, h2, h3, h4.imp (fun e => ⟨noneK k e.1, e.2⟩) id⟩
theorem TP.keep (k : Keep s h) (t : TP h hz o1 o2) : TP s hz o1 o2 := ⟨fun b o hb e => t.kb b o hb (k b o e), t.t1.keep k, t.t2.keep k⟩
theorem TJ.led {m : Str → Option Value} (F : Fr g L h m) (f0 : ∀ c, tab c ≠ tabObj #[]) (fi : ∀ c c', tab c = tab c' → c = c') (t : TI tab q g o) (j : TJ tab q a h hz o) (ha : a ≠ L ∧ g.get? a = none) :
    ∃ o' x p, hz.get? a = some o' ∧ (hz.get? x = some p ∧ x ≠ L ∧ g.get? x = none) ∧ (x = a ∨ CodeQ q p) ∧ ∀ s hy, (∀ c, h.get? c = none → s.get? c = none) → Keep g hy → hy.get? a = some o' → hy.get? x = some p → TJ tab q a s hy o := by
  obtain ⟨c, oc, h1, h2, h3, h4⟩ := j
  rcases h4 with h4 | h4
  · obtain ⟨oL, _, _, hL, _⟩ := F.ns
    refine ⟨_, c, oc, h1, ⟨h2, fun e => ?_, noneK F.keep h4.1⟩, .inr h3, fun s hy k1 k2 e1 e2 => ⟨c, oc, e1, e2, h3, .inl ⟨k1 _ h4.1, h4.2⟩⟩⟩
    rw [e, hL] at h4; cases h4.1
  · rcases t with e | ⟨c', oc', e, e1, e2⟩
    · exact absurd (h4.symm.trans e) (f0 c)
    · obtain rfl := fi _ _ (h4.symm.trans e)
      exact ⟨_, a, _, h1, ⟨h1, ha⟩, .inl rfl, fun s hy k1 k2 h1 _ => ⟨_, oc', h1, k2 _ _ e1, e2, .inr h4⟩⟩
theorem TP.led {m : Str → Option Value} {d : Addr} {od : Obj} (F : Fr g L h m) (N : News g L h [(65, o1), (72, o2)]) (t : TQ g o1 o2) (j : TP h hz o1 o2) (dn : h.get? d = none) (dg : hz.get? d = some od) :
    ∃ o1' o2' x q y p, Fr g L hz m ∧ News g L hz [(d, od), (x, q), (y, p), (65, o1'), (72, o2')] ∧ ∀ s hy, Keep s h → Keep g hy → KeepBut [65, 72] s hy → News g L hy [(x, q), (y, p), (65, o1'), (72, o2')] → TP s hy o1 o2 := by
  have n1 := (N _ (.head _)).2
  have n2 := (N _ (.tail _ (.head _))).2
  obtain ⟨o1', x, q, a1, a2, -, a3⟩ := TJ.led F tab0_65 tabI_65 t.i1 j.t1 n1
  obtain ⟨o2', y, p, b1, b2, -, b3⟩ := TJ.led F tab0_72 tabI_72 t.i2 j.t2 n2
  have hb : ∀ a ∈ [(65 : Addr), 72], ∃ o, (a, o) ∈ [((65 : Addr), o1), (72, o2)] := fun a ha => by
    rcases List.mem_cons.mp ha with e | ha
    · rw [e]; exact ⟨_, .head _⟩
    · rw [List.mem_singleton.mp ha]; exact ⟨_, .tail _ (.head _)⟩
  refine ⟨o1', o2', x, q, y, p, frBut F N j.kb hb, ?_, fun s hy k1 k2 kb M => ⟨kb, a3 s hy (fun _ => noneK k1) k2 (M _ (.tail _ (.tail _ (.head _)))).1 (M _ (.head _)).1, b3 s hy (fun _ => noneK k1) k2 (M _ (.tail _ (.tail _ (.tail _ (.head _))))).1 (M _ (.tail _ (.head _))).1⟩⟩
  obtain ⟨oL, _, _, hL, _⟩ := F.ns
  intro e he
  rcases List.mem_cons.mp he with rfl | he
  · refine ⟨dg, ?_, noneK F.keep dn⟩
    intro e
    have e' : d = L := e
    rw [e', hL] at dn; cases dn
  rcases List.mem_cons.mp he with rfl | he
  · exact a2
  rcases List.mem_cons.mp he with rfl | he
  · exact b2
  rcases List.mem_cons.mp he with rfl | he
  · exact ⟨a1, n1⟩
  · rw [List.mem_singleton.mp he]; exact ⟨b1, n2⟩
theorem TP.toTF0 (j : TP h hz (tabObj #[]) (tabObj #[])) : TF0 h hz := by
  obtain ⟨c1, oc1, h1, h2, ⟨vs1, tq1, h3, h4⟩, h5⟩ := j.t1
  obtain ⟨c2, oc2, k1, k2, ⟨vs2, tq2, k3, k4⟩, k5⟩ := j.t2
  have e1 : ∀ {c : Addr} {oc : Obj} {q : Str}, hz.get? c = some oc → CodeQ q oc → c ≠ 65 ∧ c ≠ 72 := fun {c oc q} h hq => ⟨by
    rintro rfl; rw [h1] at h; cases h; exact codeQ65 hq, by
    rintro rfl; rw [k1] at h; cases h; exact codeQ72 hq⟩
  have a := e1 h2 ⟨vs1, tq1, h3, h4⟩
  have b := e1 k2 ⟨vs2, tq2, k3, k4⟩
  exact ⟨c1, oc1, vs1, tq1, c2, oc2, vs2, tq2, ⟨a.1, a.2, b.1, b.2, h1, k1, h2, h3, h4, k2, k3, k4⟩, (h5.resolve_right fun e => tab0_65 c1 e.symm).1, (k5.resolve_right fun e => tab0_72 c2 e.symm).1⟩
theorem TP.toKeep {c1 c2 : Addr} (e1 : h.get? 65 = some (tab65 c1)) (e2 : h.get? 72 = some (tab72 c2)) (j : TP h hz (tab65 c1) (tab72 c2)) : Keep h hz := by
  obtain ⟨x, oc1, h1, h2, -, h5⟩ := j.t1
  obtain ⟨y, oc2, k1, k2, -, k5⟩ := j.t2
  rw [← h5.resolve_left fun e => tab0_65 _ e.2] at h1
  rw [← k5.resolve_left fun e => tab0_72 _ e.2] at k1
  intro b o e
  by_cases q1 : b = 65
  · subst q1; rw [e1] at e; cases e; exact h1
  · by_cases q2 : b = 72
    · subst q2; rw [e2] at e; cases e; exact k1
    · exact j.kb b o (fun hm => by rcases List.mem_cons.mp hm with e | hm; exact q1 e; exact q2 (List.mem_singleton.mp hm)) e
theorem TFa.tq {c1 : Addr} {oc1 : Obj} {vs1 : Array Value} {tq1 : Tok} {c2 : Addr} {oc2 : Obj} {vs2 : Array Value} {tq2 : Tok} (t : TFa h c1 oc1 vs1 tq1 c2 oc2 vs2 tq2) : TQ h (tab65 c1) (tab72 c2) :=
  ⟨.inr ⟨_, _, rfl, t.o1, _, _, t.d1, t.v1⟩, .inr ⟨_, _, rfl, t.o2, _, _, t.d2, t.v2⟩⟩
theorem tq0 : TQ h (tabObj #[]) (tabObj #[]) := ⟨.inl rfl, .inl rfl⟩
end
theorem notIn2 {c a b : Addr} (h : c ≠ a) (h' : c ≠ b) : c ∉ ([a, b] : List Addr) := fun hm => by
  rcases List.mem_cons.mp hm with e | hm
  · exact h e
  · exact h' (List.mem_singleton.mp hm)
theorem dpLed {g h h8 : Heap} {L l d x : Addr} {m : Str → Option Value} {ol od p o1 o1' o2 : Obj} (F : Fr g L h m) (N : News g L h [(l, ol), (d, od), (x, p), (65, o1'), (72, o2)]) (I : IJ g o1 o1' x p) (t2 : TI tab72 d2iQ g o2) (kb : KeepBut [72] h h8) (j : TJ tab72 d2iQ 72 h h8 o2) :
    ∃ o2' y p2, Fr g L h8 m ∧ News g L h8 [(y, p2), (x, p), (65, o1'), (72, o2')] ∧ ∀ s hy, hideAll s [65, 72] = g → Keep g hy → News g L hy [(y, p2), (x, p), (65, o1'), (72, o2')] → TP s hy o1 o2 := by
  have nx := N _ (.tail _ (.tail _ (.head _)))
  have n65 := N _ (.tail _ (.tail _ (.tail _ (.head _))))
  have n72 := N _ (.tail _ (.tail _ (.tail _ (.tail _ (.head _)))))
  obtain ⟨o2', y, p2, b1, b2, -, b3⟩ := TJ.led F tab0_72 tabI_72 t2 j n72.2
  have hx : x ≠ 72 := I.1
  refine ⟨o2', y, p2, frBut F N kb (fun a ha => by rw [List.mem_singleton.mp ha]; exact ⟨_, .tail _ (.tail _ (.tail _ (.tail _ (.head _))))⟩), fun q hq => ?_, fun s hy hg k M => ?_⟩
  · rcases List.mem_cons.mp hq with rfl | hq
    · exact b2
    rcases List.mem_cons.mp hq with rfl | hq
    · exact ⟨kb _ _ (not_mem72' hx) nx.1, nx.2⟩
    rcases List.mem_cons.mp hq with rfl | hq
    · exact ⟨kb _ _ (not_mem72' (show (65 : Nat) ≠ 72 by decide)) n65.1, n65.2⟩
    · rw [List.mem_singleton.mp hq]; exact ⟨b1, n72.2⟩
  · have y2 := b3 s hy (fun c hc => none_hide hg (noneK F.keep hc) (notIn2 (by rintro rfl; rw [n65.1] at hc; cases hc) (by rintro rfl; rw [n72.1] at hc; cases hc))) k (M _ (.tail _ (.tail _ (.tail _ (.head _))))).1 (M _ (.head _)).1
    refine ⟨keepBut_hide hg k, ?_, y2⟩
    have mx := M _ (.tail _ (.head _))
    have m65 := (M _ (.tail _ (.tail _ (.head _)))).1
    obtain ⟨hx, c, I⟩ := I
    have hc := I
    obtain ⟨oc, rfl, hq, -⟩ := hc
    exact I.tj hg k m65 mx.1 mx.2.2 fun hq => notIn2 (by rintro rfl; have e := m65.symm.trans mx.1; cases e; exact codeQ65 hq) hx
end Mine.Internal
end
noncomputable section -- Kdiv2
theorem Mine.Internal.wTopOff6 : True := by w_top off; trivial
local macro_rules
  | `(tactic| walk_at $s:str) => match [("#step", "#st1"), ("#on", "#skip"), ("#om", "#lia")].lookup s.getString with
    | some r => `(tactic| walk_at $(Lean.Syntax.mkStrLit r))
    | none => Lean.Macro.throwUnsupported
open PySem PySem.W PyProof.Rows
namespace Mine.Internal
set_option Elab.async false
theorem bits_small {x : Int} {k : Nat} (h0 : 0 ≤ x) (h : x < 2 ^ k) : Builtin.Int.intBits x ≤ k := by
  unfold Builtin.Int.intBits
  split
  · omega
  · rename_i hx
    have hx' : x.natAbs ≠ 0 := by intro e; apply hx; simp; omega
    have h2 : x.natAbs < 2 ^ k := by
      have e : (x.natAbs : Int) = x := Int.natAbs_of_nonneg h0
      have : (x.natAbs : Int) < ((2 ^ k : Nat) : Int) := by rw [e]; simpa using h
      omega
    have := (Nat.log2_lt hx').mpr h2
    omega
noncomputable abbrev tup2I (x y : Int) (t1 t2 : Tok) : Obj := { cls := Value.type "tuple", data := Data.seq #[Value.int x t1, Value.int y t2] }
noncomputable abbrev RetT2I (x y : Int) : Shared → (Value → Shared → Prop) → Prop :=
  fun s Q => ∀ (d : Addr) (t1 t2 : Tok) (h' : Heap) (tk' : Nat), Keep s.heap h' → s.heap.get? d = none → h'.get? d = some (tup2I x y t1 t2) → Q (.ref d) { s with heap := h', toks := tk' }
theorem div2_spec (w : World) (x y n : Int) (t1 t2 t3 : Tok) :
    CtrK w 4 40 56 [.int x t1, .int y t2, .int n t3] (fun _ => 0 ≤ x ∧ x < 1000000 ∧ 0 < y ∧ y < 1000 ∧ 0 < n ∧ n < 100) (RetT2I (x.fdiv y) (x.fmod y)) := by
  dsimp only [CtrK, P0, LS, RetT2I]
  k_fill
  intro mean mg mb dp un gd cn cs a ccd cl outer A₀ base h₀ L m s Q E B F X T hk hpre hdp hun hret
  obtain ⟨hp1, hp2, hp3, hp4, hp5, hp6⟩ := hpre
  have hbits : (↑(Builtin.Int.intBits x) : Int) - n ≤ 4000 := by
    have := bits_small (k := 20) hp1 (by omega)
    omega
  refine wpAny_call ?_
  k_dflt (refine' enterP ?k1 ?k2 ?k3 ?k5 ?kA ?kF ?kK ?k6 ?k7 ?k8 ?k9 ?kB ?_ ?c2 ?c3 ?c4 ?c5; walk_at "#c1"; k_whole; intro L' h' F' N' B' X' T'; (try dsimp only); (try k_lift B'); (try k_fold))
  k_steps
  (try dsimp only)
  (with_reducible rename Fr _ _ _ _ => kF)
  (with_reducible rename News _ _ _ _ => kN)
  have h2 := kN _ List.mem_cons_self
  exact hret _ _ _ _ _ kF.keep h2.2.2 h2.1
end Mine.Internal
end
noncomputable section -- Kloop
open PySem PySem.W PySem.Calls PyProof.Rows
namespace Mine.Internal
noncomputable def TurnEnd (h₀ : Heap) (L I : Addr) (it : Obj) (Jn : (Str → Option Value) → List (Addr × Obj) → Prop) (s₁ : Shared) (Q : Flow → Shared → Prop) (f : Flow) (s₂ : Shared) : Prop :=
  match f with
  | .ret v => Q (.ret v) s₂
  | .brk => Q .next s₂
  | _ => ∃ h' tk m₂ news₂, s₂ = { s₁ with heap := h', toks := tk } ∧ Fr h₀ L h' m₂ ∧ News h₀ L h' ((I, it) :: news₂) ∧ Jn m₂ news₂
section
variable {prog : Program} {w : World} {A : Around} {E : Value → Shared → Prop} {s : Shared} {env : Env} {h₀ : Heap} {x : Str} {body : List Stmt} {Q : Flow → Shared → Prop}
theorem loopLit {I : Addr} {fp : List Addr} {n : Nat} {P : Nat → Value → Prop} {St : Nat → Heap → Prop} {m : Str → Option Value} {news : List (Addr × Obj)} (keep : List (Addr × Obj)) (J : Nat → (Str → Option Value) → List (Addr × Obj) → Prop)
    (W : Walks prog w A I fp [I] n P St) (hlive : ∀ i h, St i h → ∃ o, h.get? I = some o)
    (hfp : ∀ b ∈ fp, b = I ∨ (∃ o, (b, o) ∈ keep) ∨ ∃ o, h₀.get? b = some o)
    (hL : env.locals ∉ fp) (hI0 : h₀.get? I = none) (hst : St 0 s.heap) (F : Fr h₀ env.locals s.heap m) (N : News h₀ env.locals s.heap news)
    (J0 : J 0 m news) (hJ : ∀ i m₁ ns, J i m₁ ns → (∀ p ∈ keep, p ∈ ns) ∧ ∀ p ∈ ns, p.1 ≠ I)
    (turn : ∀ i v m₁ news₁ h tk it, i < n → P i v → J i m₁ news₁ → Fr h₀ env.locals h (fun y => if y = x then some v else m₁ y) → News h₀ env.locals h ((I, it) :: news₁) →
      wpAny (model prog w) A (execs body env) (TurnEnd h₀ env.locals I it (J (i + 1)) { s with heap := h, toks := tk } Q) E { s with heap := h, toks := tk })
    (done : ∀ m' news' h' tk, J n m' news' → Fr h₀ env.locals h' m' → News h₀ env.locals h' news' → Q .next { s with heap := h', toks := tk }) :
    LoopAtV prog w A h₀ env x body Q E (.ref I) s := by
  have hIf : I ∈ fp := W.sub I (List.mem_singleton.mpr rfl)
  refine ⟨I, fp, [I], n, P, St, m, news, J, rfl, W, hL, fun b hb => by rw [List.mem_singleton.mp hb]; exact hI0, fun p hp hI => (hJ 0 m news J0).2 p hp (List.mem_singleton.mp hI), hst, F, N, J0, ?_, fun h' tk m' news' F' N' _ hj => done m' news' h' tk hj F' N'⟩
  rintro i v m₁ news₁ s₁ own ⟨h, tk, rfl⟩ hin hP hJi hoff hown hget hall hst₁ F₁ N₁
  obtain ⟨it, hit⟩ := hlive _ _ hst₁
  have hmem := hall I hIf hI0 it hit
  have N₂ : News h₀ env.locals h ((I, it) :: news₁) := fun p hp => by
    rcases List.mem_cons.mp hp with rfl | hp
    · exact N₁ _ (List.mem_append_left _ hmem)
    · exact N₁ _ (List.mem_append_right _ hp)
  refine wpAny_mono (turn i v m₁ news₁ h tk it hin hP hJi F₁ N₂) (fun f s₂ p => ?_) fun _ _ e => e
  have fin : (∃ h' tk' m₂ news₂, s₂ = { ({ s with heap := h, toks := tk } : Shared) with heap := h', toks := tk' } ∧ Fr h₀ env.locals h' m₂ ∧ News h₀ env.locals h' ((I, it) :: news₂) ∧ J (i + 1) m₂ news₂) →
      LoopStepU h₀ env.locals [I] own (J (i + 1)) { s with heap := h, toks := tk } .next s₂ := by
    rintro ⟨h', tk', m₂, news₂, rfl, F', N', hj⟩
    refine ⟨rfl, h', tk', m₂, news₂, rfl, F', fun q hq => ?_, fun q hq hI => (hJ _ _ _ hj).2 q hq (List.mem_singleton.mp hI), hj⟩
    rcases List.mem_append.mp hq with hq | hq
    · have g1 : h.get? q.1 = some q.2 := hget q hq
      rcases hfp _ (hown q hq) with e | ⟨o, ho⟩ | ⟨o, ho⟩
      · have e2 : q = (I, it) := by
          rw [e, hit] at g1
          exact Prod.ext e (Option.some.inj g1).symm
        rw [e2]; exact N' _ (List.mem_cons_self ..)
      · have k1 := (hJ _ _ _ hJi).1 _ ho
        have g2 : h.get? q.1 = some o := (N₁ _ (List.mem_append_right _ k1)).1
        have e2 : q = (q.1, o) := Prod.ext rfl (Option.some.inj (g1.symm.trans g2))
        rw [e2]; exact N' _ (List.mem_cons_of_mem _ ((hJ _ _ _ hj).1 _ ho))
      · have := (N₁ q (List.mem_append_left _ hq)).2.2
        rw [ho] at this; cases this
    · exact N' _ (List.mem_cons_of_mem _ hq)
  cases f with
  | ret v => exact .ret p
  | brk => exact .brk p
  | next => exact .next (fin p)
  | cont => exact .cont (fin p)
end
end Mine.Internal
end
section
local macro_rules | `(tactic| omega) => `(tactic| lia)
noncomputable section -- KdpM
open PySem PySem.W PySem.Calls PyProof.Rows
namespace Mine.Internal
theorem nameFr {P : Prop} {h₀ h : Heap} {L : Addr} {m : Str → Option Value} (F : Fr h₀ L h m) (k : ∀ m', m = m' → Fr h₀ L h m' → P) : P := k m rfl F
theorem map3 (m M0 : Str → Option Value) (a b c : Str) (h : ∀ z, z ≠ a → z ≠ b → z ≠ c → m z = M0 z) : m = fun z => if z = a then m a else if z = b then m b else if z = c then m c else M0 z := by
  funext z
  by_cases h1 : z = a
  · rw [if_pos h1, h1]
  · by_cases h2 : z = b
    · rw [if_neg h1, if_pos h2, h2]
    · by_cases h3 : z = c
      · rw [if_neg h1, if_neg h2, if_pos h3, h3]
      · rw [if_neg h1, if_neg h2, if_neg h3, h z h1 h2 h3]
structure LInv (x y : Int) (n k i : Nat) (r : Int) (ql : List Int) : Prop where
  r0 : 0 ≤ r
  r1 : r < y
  rr : r = x / 2 ^ (n * (k - i)) % y
  qq : ql.foldl (fun a q => a * 2 ^ n + q) 0 = x / 2 ^ (n * (k - i)) / y
  len : ql.length = i
  dig : ∀ q ∈ ql, 0 ≤ q ∧ q < 2 ^ n
theorem LInv.start {x y : Int} {n k : Nat} (hx : 0 ≤ x) (hk : x < 2 ^ (n * k)) (hy : 0 < y) : LInv x y n k 0 0 [] := by
  have e : x / 2 ^ (n * (k - 0)) = 0 := by rw [Nat.sub_zero]; exact Int.ediv_eq_zero_of_lt hx hk
  exact ⟨Int.le_refl _, hy, by rw [e]; simp, by rw [e]; simp, rfl, fun _ h => nomatch h⟩
theorem LInv.step {x y : Int} {n k i : Nat} {r : Int} {ql : List Int} (hx : 0 ≤ x) (hy : 0 < y) (hi : i < k) (h : LInv x y n k i r ql) :
    LInv x y n k (i + 1) ((r * 2 ^ n + x / 2 ^ (n * (k - 1 - i)) % 2 ^ n).fmod y) (ql ++ [(r * 2 ^ n + x / 2 ^ (n * (k - 1 - i)) % 2 ^ n).fdiv y]) := by
  obtain ⟨h0, h1, h2, h3, h4, h5⟩ := h
  have ek : k - (i + 1) = k - 1 - i := by omega
  have hB : (0 : Int) < 2 ^ n := Int.pow_pos (by decide)
  rw [Int.fmod_eq_emod_of_nonneg _ (Int.le_of_lt hy), Int.fdiv_eq_ediv_of_nonneg _ (Int.le_of_lt hy)]
  -- X' = X * B + d
  have eX : x / 2 ^ (n * (k - i)) = x / 2 ^ (n * (k - 1 - i)) / 2 ^ n := by
    rw [Int.ediv_ediv_of_nonneg (Int.le_of_lt (Int.pow_pos (by decide))), ← Int.pow_add]
    congr 2
    have : k - i = k - 1 - i + 1 := by omega
    rw [this, Nat.mul_add]; omega
  generalize hX' : x / 2 ^ (n * (k - 1 - i)) = X' at *
  have hX0 : 0 ≤ X' := by rw [← hX']; exact Int.ediv_nonneg hx (Int.le_of_lt (Int.pow_pos (by decide)))
  rw [eX] at h2 h3
  have hd0 : 0 ≤ X' % 2 ^ n := Int.emod_nonneg _ (Int.ne_of_gt hB)
  have hd1 : X' % 2 ^ n < 2 ^ n := Int.emod_lt_of_pos _ hB
  have hX2 : X' = (X' / 2 ^ n / y * y + r) * 2 ^ n + X' % 2 ^ n := by
    have e1 := Int.mul_ediv_add_emod X' (2 ^ n)
    have e2 := Int.mul_ediv_add_emod (X' / 2 ^ n) y
    rw [← h2, Int.mul_comm] at e2
    rw [e2, Int.mul_comm]
    exact e1.symm
  have hT : X' = X' / 2 ^ n / y * 2 ^ n * y + (r * 2 ^ n + X' % 2 ^ n) := by
    rw [Int.add_mul] at hX2
    have e3 : X' / 2 ^ n / y * y * 2 ^ n = X' / 2 ^ n / y * 2 ^ n * y := by rw [Int.mul_assoc, Int.mul_comm y, ← Int.mul_assoc]
    rw [e3] at hX2
    omega
  generalize hQ : X' / 2 ^ n / y * 2 ^ n = Q at *
  generalize hT2 : r * 2 ^ n + X' % 2 ^ n = T at *
  have em : X' % y = T % y := by rw [hT, Int.add_comm, Int.add_mul_emod_self_right]
  have ed : X' / y = Q + T / y := by rw [hT, Int.add_comm, Int.add_mul_ediv_right _ _ (Int.ne_of_gt hy), Int.add_comm]
  have hT0 : 0 ≤ T := by
    rw [← hT2]
    have := Int.mul_nonneg h0 (Int.le_of_lt hB)
    omega
  have hT1 : T < 2 ^ n * y := by
    rw [← hT2]
    have e4 : (r + 1) * 2 ^ n ≤ y * 2 ^ n := Int.mul_le_mul_of_nonneg_right (by omega) (Int.le_of_lt hB)
    rw [Int.add_mul, Int.one_mul, Int.mul_comm y] at e4
    omega
  refine ⟨Int.emod_nonneg _ (Int.ne_of_gt hy), Int.emod_lt_of_pos _ hy, by rw [ek, hX', em], ?_, by rw [List.length_append, h4]; rfl, fun q hq => ?_⟩
  · rw [List.foldl_append, h3, ek, hX']
    show X' / 2 ^ n / y * 2 ^ n + T / y = X' / y
    rw [hQ, ed]
  · rcases List.mem_append.mp hq with hq | hq
    · exact h5 q hq
    · rw [List.mem_singleton.mp hq]
      exact ⟨Int.ediv_nonneg hT0 (Int.le_of_lt hy), Int.ediv_lt_of_lt_mul hy hT1⟩
theorem dval_app (as bs : List Int) (n l : Nat) : ∀ k, l + k ≤ as.length → dval (as ++ bs) n l k = dval as n l k
  | 0, _ => rfl
  | k + 1, h => by
    rw [dval, dval, dval_app as bs n l k (by omega)]
    have : (as ++ bs).getD (l + k) 0 = as.getD (l + k) 0 := by
      simp [List.getD_eq_getElem?_getD, List.getElem?_append_left (show l + k < as.length by omega)]
    rw [this]
theorem dval_cons (a : Int) (as : List Int) (n : Nat) : ∀ k, dval (a :: as) n 0 (k + 1) = a + dval as n 0 k * 2 ^ n
  | 0 => by simp [dval]
  | k + 1 => by
    rw [dval, dval_cons a as n k, dval]
    have : (a :: as).getD (0 + (k + 1)) 0 = as.getD (0 + k) 0 := by simp [List.getD_eq_getElem?_getD]
    rw [this, Int.add_mul, Nat.mul_add, Nat.mul_one, Int.pow_add, ← Int.mul_assoc]
    omega
theorem dval_rev (n : Nat) (ql : List Int) : dval ql.reverse n 0 ql.reverse.length = ql.foldl (fun a q => a * 2 ^ n + q) 0 := by
  have key : ∀ l : List Int, dval l n 0 l.length = l.foldr (fun q a => a * 2 ^ n + q) 0 := by
    intro l
    induction l with
    | nil => rfl
    | cons a l ih => rw [List.length_cons, dval_cons, ih, List.foldr_cons]; omega
  rw [key, List.foldr_reverse]
end Mine.Internal
end
end
noncomputable section -- Kdp
theorem Mine.Internal.wTopOff7 : True := by w_top off; trivial
local macro_rules | `(tactic| walk_at "no such line") => `(tactic| fail)
local macro_rules
  | `(tactic| walk_at $s:str) => match [("eval BinOp", "#bin"), ("spliced", "#args"), ("isTrue Compare", "#cmp"), ("exec Assign", "#asg0"), ("exec Return some", "#ret"), ("#step", "#st2"), ("#on", "#skip"), ("#om", "#omLKdp"), ("call ref", "#m1Kdp"), ("exec For Name Call cons nil", "#o2Kdp"), ("call type:reversed", "#o3Kdp"), ("call builtin:list.append", "#o4Kdp"), ("call builtin:list.reverse", "#o5Kdp")].lookup s.getString with
    | some r => `(tactic| walk_at $(Lean.Syntax.mkStrLit r))
    | none => Lean.Macro.throwUnsupported
theorem Mine.Internal.kwM_Kdp : True := by
  k_with "#omLKdp" => (first | walk_at "#omKdp" | lia)
  k_with "#m1Kdp" => (first | walk_at "#o6Kdp" | walk_at "#o1Kdp")
  trivial
theorem Mine.Internal.kwN_Kdp : True := by
  k_with "#omKdp" => (first | decide | (with_reducible first | assumption | walk_at "#nz" | exact Nat.succ_le_of_lt ‹_› | exact Mine.Internal.u0 ‹_› | exact Mine.Internal.u1 ‹_› (by decide) | exact Mine.Internal.u2 ‹_› (by decide) | exact Mine.Internal.u3 ‹_› (by decide) | exact Mine.Internal.leC ‹_› (by decide) | exact Mine.Internal.ltC ‹_› (by decide) | exact Mine.Internal.ltD ‹_› (by decide) | exact Mine.Internal.leD ‹_› (by decide) | exact Mine.Internal.iltC ‹_› (by decide) | exact Mine.Internal.ileC ‹_› (by decide) | exact Mine.Internal.iltD ‹_› (by decide) | exact Mine.Internal.ileD ‹_› (by decide) | exact Mine.Internal.igtC ‹_› (by decide) | exact Mine.Internal.igeC ‹_› (by decide) | exact Mine.Internal.igtP ‹_› (by decide) | exact Mine.Internal.igeP ‹_› (by decide) | exact Mine.Internal.cltC ‹_› (by decide) | exact Mine.Internal.cleC ‹_› (by decide) | exact Mine.Internal.cgtC (by decide) | exact Mine.Internal.cgeC (by decide) | exact Mine.Internal.leE ‹_› ‹_› (by decide) | exact Mine.Internal.ltE ‹_› ‹_› (by decide) | exact Mine.Internal.cltE ‹_› ‹_› (by decide) | exact Mine.Internal.cltF ‹_› ‹_› (by decide) | exact Mine.Internal.cleF ‹_› ‹_› (by decide) | exact Mine.Internal.leF ‹_› ‹_› (by decide) | fail "om: none"))
  trivial
open PySem PySem.W PyProof.Rows
namespace Mine.Internal
set_option Elab.async false
theorem Mine.Internal.kw1_Kdp : True := by
  k_with "#o1Kdp" => (k_here; (with_reducible show wpAny _ _ (call (Value.ref 70) _) _ _ _); k_dflt (refine' i2d_U _ _ _ _ _ _ _ _ _ _ _ _ _ _ _ _ _ _ _ _ _ _ _ _ _ _ _ _ ?k1 ?k2 ?k3 ?k4 ?kt ?k5 ?k6 ?k7 ?k8 ?k9 ?k10 ?_; (case k1 => k_asm); (case k2 => k_asm); (case k3 => k_asm); (case k4 => k_asm); (case kt => assumption); (case k5 => k_asm); (case k6 => exact rfl); (case k7 => k_asm); (case k8 => assumption); (case k9 => ktr_room); (case k10 => ktr_units); k_whole); intro _ _ _ _ _ _ _ _ _ _ _ _; (try dsimp only); (try k_fold))
  k_with "#o2Kdp" => (k_here; (with_unfolding_all refine' For_invVF ?kF ?k1 ?k2 ?_; (case kF => k_asm); (case k1 => exact rfl); (case k2 => exact rfl); k_whole))
  k_with "#o3Kdp" => (k_here; k_dflt (refine' krv_reversed ?F ?N ?l ?_; (case F => k_asm); (case N => k_asm); (case l => is_list); k_whole); intro _ _ _ _ l1; (try k_lt l1); revert l1; intro _)
  trivial
local macro_rules | `(tactic| walk_at "pyIter ref") => `(tactic| fail)
theorem Mine.Internal.kw4_Kdp : True := by
  k_with "#o4Kdp" => (k_here; (try dsimp only); (simp only [List.cons_append, List.nil_append]); (with_reducible show wpAny _ _ (call (Value.builtin _) [Value.ref _, _]) _ _ _); k_dflt (refine' append_K ?k1 ?k2 ?k3 ?_ ?z; (case k1 => k_asm); (case k2 => k_asm); (case k3 => k_upd); (case z => assumption); k_whole); intro _ _ _; (try k_sweep))
  k_with "#o5Kdp" => (k_here; (with_reducible show wpAny _ _ (call (Value.builtin _) [Value.ref _]) _ _ _); k_dflt (refine' kl_reverse ?F ?N ?e ?U ?z ?_; (case F => k_asm); (case N => k_asm); (case e => exact rfl); (case U => k_upd); (case z => assumption); k_whole); intro _ _ _; (try k_sweep))
  trivial
theorem intsRev : ∀ {vs : List Value} {ns : List Int}, IntsAre vs ns → IntsAre vs.reverse ns.reverse
  | _, _, .nil => .nil
  | _, _, .cons n t h => by rw [List.reverse_cons, List.reverse_cons]; exact IntsAre.append (intsRev h) (.cons n t .nil)
noncomputable def AllNe (d : Nat) : List (Addr × Obj) → Prop
  | [] => True
  | p :: r => @Ne Nat p.1 d ∧ AllNe d r
theorem AllNe.of {d : Addr} : ∀ {l : List (Addr × Obj)}, (∀ p ∈ l, p.1 ≠ d) → AllNe d l
  | [], _ => trivial
  | _ :: _, h => ⟨h _ (.head _), AllNe.of fun p hp => h p (.tail _ hp)⟩
theorem div2_ctr (w : World) (news : List (Addr × Obj)) (x y n : Int) (t1 t2 t3 : Tok) :
    Ctr w 4 40 56 news [.int x t1, .int y t2, .int n t3] (0 ≤ x ∧ x < 1000000 ∧ 0 < y ∧ y < 1000 ∧ 0 < n ∧ n < 100)
      (fun h₀ L m s Q => ∀ (d : Addr) (t1 t2 : Tok) (h' : Heap) (tk' : Nat), Fr h₀ L h' m → News h₀ L h' ((d, tup2I (x.fdiv y) (x.fmod y) t1 t2) :: news) → AllNe d news → Q (.ref d) { s with heap := h', toks := tk' }) := by
  intro mean mg mb dp un gd cn cs a ccd cl outer A₀ base h₀ L m s Q E B F X N T hk hpre hdp hun hret
  refine div2_spec w x y n t1 t2 t3 mean mg mb dp un gd cn cs a ccd cl outer A₀ base h₀ L m s Q E B F X T hk hpre hdp hun fun d t1 t2 h' tk' kp hn ho => hret d t1 t2 h' tk' (frKeep F kp) (newsKeep1 F N kp hn ho) (AllNe.of fun p hp e => ?_)
  have := (N p hp).1
  rw [e, hn] at this; cases this
theorem Mine.Internal.kw6_Kdp : True := by
  k_with "#o6Kdp" => (k_here; (with_reducible show wpAny _ _ (call (Value.ref 56) _) _ _ _); k_dflt (refine' div2_ctr _ _ _ _ _ _ _ _ _ _ _ _ _ _ _ _ _ _ _ _ _ _ _ _ _ _ _ _ ?k1 ?k2 ?k3 ?k4 ?k5 ?k6 ?k7 ?k8 ?k9 ?_; walk_at "#c3"; k_whole); intro _ _ _ _ _ _ _ hne'; (try simp only [AllNe, and_true] at hne'); (try (revert hne'; intro _)); (try dsimp only); (try k_fold))
  trivial
noncomputable def dp_U_k : Σ' (P1 : World → Obj → Obj → Int → Int → Nat → Tok → Tok → (ExcName → Option Value) → (Str → Option Value) → (Str → Option Value) → Nat → Nat → (Option (List Code)) → Str → Scope → Addr → Value → (List (Str × Addr)) → (List Env) → Around → Heap → Heap → Addr → (Str → Option Value) → Shared → (Value → Shared → Prop) → (Value → Shared → Prop) → Heap → Addr → Heap → Prop), (∀ w o1 o2 x y k t1 t2 mean mg mb dp un gd cn cs a ccd cl outer A₀ base h₀ L m s Q E g' L' h', P1 w o1 o2 x y k t1 t2 mean mg mb dp un gd cn cs a ccd cl outer A₀ base h₀ L m s Q E g' L' h') → ∀ (w : World) (o1 o2 : Obj) (x y : Int) (k : Nat) (t1 t2 : Tok), CtrT w 24 240 84 [(65, o1), (72, o2)] [.int x t1, .int y t2] (fun h => TQ h o1 o2 ∧ 0 ≤ x ∧ x < 128 ∧ 0 < y ∧ y < 128 ∧
      (0 ≤ x ∧ x < 128 ∧ 0 < (Builtin.Int.intBits y : Int) ∧ (Builtin.Int.intBits y : Int) < 8 ∧ (↑(Builtin.Int.intBits x) + (Builtin.Int.intBits y : Int) - 1).fdiv (Builtin.Int.intBits y) = (k : Int) ∧ k ≤ 7 ∧ x < 2 ^ ((Builtin.Int.intBits y : Int).toNat * k) ∧ (x = 0 → k = 0) ∧ (x ≠ 0 → 0 < k)))
      (fun _ s Q => ∀ (d : Addr) (t1 t2 : Tok) (hz : Heap) (tz : Nat), TP s.heap hz o1 o2 → s.heap.get? d = none → hz.get? d = some (tup2I (x / y) (x % y) t1 t2) → Q (.ref d) { s with heap := hz, toks := tz }) := ⟨_, by
  intro hP_1 w o1 o2 x y k t1 t2
  dsimp only [CtrT, P0, LS]
  k_fill
  intro mean mg mb dp un gd cn cs a ccd cl outer A₀ base h₀ L m s Q E B F X N T hk C1 C2 hpre hdp hun hret
  obtain ⟨hQ, hp1, hp2, hp3, hp4, hpI⟩ := hpre
  have hQ0 := hQ.hide (N _ (.head _)).1 (N _ (.tail _ (.head _))).1
  refine wpAny_call ?_
  k_dflt (refine' enterT ?k1 ?k2 ?k3 ?k4 ?k5 ?kA ?kF ?kK ?k6 ?k7 ?k8 ?k9 ?kB ?kC1 ?kC2 ?_ ?c2 ?c3 ?c4 ?c5; walk_at "#c0"; k_whole)
  have hg0 : hideAll s.heap (List.map (·.1) [((65 : Addr), o1), (72, o2)]) = hideAll s.heap [65, 72] := rfl
  rw [hg0]
  generalize hg : hideAll s.heap [65, 72] = g' at *
  have hQ1 := hQ0.i1
  have hQ2 := hQ0.i2
  clear C1 C2 N F B X T hg0 hQ hQ0
  intro L' h' F' N' B' X' T' C1 C2 l1
  (try k_lt l1)
  (try dsimp only)
  (try k_lift B')
  (try k_fold)
  revert hk hdp hun hret hp1 hp2 hp3 hp4 hpI hg hQ1 hQ2 F' N' B' X' T' C1 C2 l1
  exact hP_1 w o1 o2 x y k t1 t2 mean mg mb dp un gd cn cs a ccd cl outer A₀ base h₀ L m s Q E g' L' h'⟩
noncomputable def dp_U_R (z : Sk) : Prop := dp_U_k.1 (z.w 0) (z.o 0) (z.o 1) (z.i 0) (z.i 1) (z.n 0) (z.t 0) (z.t 1) (z.em 0) (z.m 0) (z.m 1) (z.n 1) (z.n 2) (z.oc 0) (z.x 0) (z.sc 0) (z.a 0) (z.v 0) (z.sa 0) (z.le 0) (z.ar 0) (z.h 0) (z.h 1) (z.a 1) (z.m 2) (z.s 0) (z.q 0) (z.q 1) (z.h 2) (z.a 2) (z.h 3)
namespace dp_U_c
def w := (skv dp_U_R).w 0
def o2 := (skv dp_U_R).o 1
def x := (skv dp_U_R).i 0
def y := (skv dp_U_R).i 1
def k := (skv dp_U_R).n 0
def t1 := (skv dp_U_R).t 0
def g' := (skv dp_U_R).h 2
def L' := (skv dp_U_R).a 2
noncomputable def r1_k : Σ' (P1 : Heap → Addr → Addr → Obj → Obj → (Array Value) → Nat → Heap → Nat → Heap → Nat → Heap → Addr → Heap → Heap → Addr → Heap → Prop), (∀ hzz1y1 d' c' oc' u' its' e' hq1 tkq hq2 tk hq3 l' hq4 hq5 D' hq6, P1 hzz1y1 d' c' oc' u' its' e' hq1 tkq hq2 tk hq3 l' hq4 hq5 D' hq6) → dp_U_k.1 w ((skv dp_U_R).o 0) o2 x y k t1 ((skv dp_U_R).t 1) ((skv dp_U_R).em 0) ((skv dp_U_R).m 0) ((skv dp_U_R).m 1) ((skv dp_U_R).n 1) ((skv dp_U_R).n 2) ((skv dp_U_R).oc 0) ((skv dp_U_R).x 0) ((skv dp_U_R).sc 0) ((skv dp_U_R).a 0) ((skv dp_U_R).v 0) ((skv dp_U_R).sa 0) ((skv dp_U_R).le 0) ((skv dp_U_R).ar 0) ((skv dp_U_R).h 0) ((skv dp_U_R).h 1) ((skv dp_U_R).a 1) ((skv dp_U_R).m 2) ((skv dp_U_R).s 0) ((skv dp_U_R).q 0) ((skv dp_U_R).q 1) g' L' ((skv dp_U_R).h 3) := ⟨_, by
  intro hP_1 
  intro hk hdp hun hret hp1 hp2 hp3 hp4 hpI hg hQ1 hQ2 F' N' B' X' T' C1 C2 l1
  w_on
  k_steps
  (with_reducible rename Fr _ _ _ _ => kF)
  (with_reducible rename News _ _ _ _ => kN)
  rename_i d' c' oc' u' its' e' hq1 tkq hD' hI' hq2 hq3 l' hq4 lq1 hq5 F91 N91 D' hq6 lq2
  rename_i hzz1y1
  revert hk hdp hun hret hp1 hp2 hp3 hp4 hpI hg hQ1 hQ2 B' X' T' C1 C2 l1 hD' hI' qk ek lq1 F91 N91 kF kN lq2
  exact hP_1 hzz1y1 d' c' oc' u' its' e' hq1 tkq hq2 tk hq3 l' hq4 hq5 D' hq6⟩
noncomputable def r1_R (z : Sk) : Prop := r1_k.1 (z.h 0) (z.a 0) (z.a 1) (z.o 0) (z.o 1) (z.av 0) (z.n 0) (z.h 1) (z.n 1) (z.h 2) (z.n 2) (z.h 3) (z.a 2) (z.h 4) (z.h 5) (z.a 3) (z.h 6)
namespace r1_c
def d' := (skv r1_R).a 0
def c' := (skv r1_R).a 1
def oc' := (skv r1_R).o 0
def u' := (skv r1_R).o 1
def its' := (skv r1_R).av 0
def e' := (skv r1_R).n 0
def l' := (skv r1_R).a 2
def D' := (skv r1_R).a 3
def hq6 := (skv r1_R).h 6
noncomputable def r2_k : Σ' (P1 : Nat → Heap → Nat → Obj → Int → (Array Value) → Nat → (List Int) → Tok → (Option Value) → (Option Value) → Tok → Int → Prop), Σ' (P2 : Heap → Nat → Int → (Array Value) → Nat → (List Int) → Tok → (Option Value) → (Option Value) → Prop), (∀ i hh tkk it r qs e ql tr vq va tv dg, P1 i hh tkk it r qs e ql tr vq va tv dg) → (∀ hh tkk r qs e ql tr vq va, P2 hh tkk r qs e ql tr vq va) → r1_k.1 ((skv r1_R).h 0) d' c' oc' u' its' e' ((skv r1_R).h 1) ((skv r1_R).n 1) ((skv r1_R).h 2) ((skv r1_R).n 2) ((skv r1_R).h 3) l' ((skv r1_R).h 4) ((skv r1_R).h 5) D' hq6 := ⟨_, _, by
  intro hP_1 hP_2 
  intro hk hdp hun hret hp1 hp2 hp3 hp4 hpI hg hQ1 hQ2 B' X' T' C1 C2 l1 hD' hI' qk ek lq1 F91 N91 kF kN lq2
  refine nameFr kF (fun M0 hM0 kF => ?_)
  have nD := kN _ (.head _)
  have nd := kN _ (.tail _ (.tail _ (.head _)))
  have nL : L' < hq6.objs.size := kF.ns.lt
  have hnb : (Builtin.Int.intBits y : Int).toNat = Builtin.Int.intBits y := Int.toNat_natCast _
  refine wpAny_pyIter_revIter (l := d') (i := (its'.toList.length : Int) - 1) ⟨_, nD.1, rfl, rfl⟩ ?_
  refine loopLit [(d', W.listOf its' e')] (fun i m₁ ns => ∃ (r : Int) (qs : Array Value) (e : Nat) (ql : List Int), (∀ z, z ≠ Str.ofString "q_digit" → z ≠ Str.ofString "a_digit" → z ≠ Str.ofString "r" → m₁ z = M0 z) ∧ (∃ tr, m₁ (Str.ofString "r") = some (Value.int r tr)) ∧
      ns = [(l', W.listOf qs e), (d', W.listOf its' e'), (c', oc'), (65, u'), (72, o2)] ∧ IntsAre qs.toList ql ∧ LInv x y (Builtin.Int.intBits y) k i r ql)
    (Walks.listRev (A := _) rfl D' d' (Nat.ne_of_lt (by omega)) its') ?_ ?_ ?_ ?_ ?_ kF (fun p hp => kN p (.tail _ hp)) ?_ ?_ ?_ ?_
  · rintro i h ⟨_, ⟨o, ho, _⟩, _⟩; exact ⟨o, ho⟩
  · intro b hb
    have hb' : b = D' ∨ b = d' := by simpa using hb
    rcases hb' with rfl | rfl
    · exact .inl rfl
    · exact .inr (.inl ⟨_, List.mem_singleton.mpr rfl⟩)
  · intro hm
    have hb' : L' = D' ∨ L' = d' := by
      rcases List.mem_cons.mp hm with e | hm
      · exact .inl e
      · exact .inr (List.mem_singleton.mp hm)
    rcases hb' with e | e
    · exact nD.2.1 e.symm
    · exact nd.2.1 e.symm
  · exact nD.2.2
  · exact ⟨Nat.zero_le _, ⟨_, nD.1, rfl, by simp; rfl⟩, ⟨_, nd.1, rfl, _, rfl⟩⟩
  · exact ⟨0, #[], 0, [], fun _ _ _ _ => rfl, ⟨_, by rw [← hM0]; rfl⟩, rfl, .nil, LInv.start hp1 (by rw [← hnb]; exact hpI.2.2.2.2.2.2.1) hp3⟩
  · rintro i m₁ ns ⟨r, qs, e, ql, -, -, rfl, -, -⟩
    refine ⟨fun p hp => by rw [List.mem_singleton.mp hp]; exact .tail _ (.head _), fun p hp => ?_⟩
    simp only [List.mem_cons, List.not_mem_nil, or_false] at hp
    rcases hp with rfl | rfl | rfl | rfl | rfl <;> dsimp only <;> exact Nat.ne_of_lt (by omega)
  · intro i v m₁ news₁ hh tkk it hi hP hJ F N
    refine Mine.Internal.nameGoal ?_
    intro Gz
    obtain ⟨r, qs, e, ql, hm, ⟨tr, hmr⟩, rfl, hI, hLI⟩ := hJ
    have em := map3 _ _ _ _ _ hm
    rw [hmr] at em
    generalize m₁ (Str.ofString "q_digit") = vq at em
    generalize m₁ (Str.ofString "a_digit") = va at em
    subst em
    clear hm hmr
    obtain ⟨hsz, hdig⟩ := hD'
    rw [hsz] at hi
    obtain ⟨tv, hv⟩ := hdig (k - 1 - i) (by omega)
    rw [hsz, hv] at hP
    obtain rfl := Option.some.inj hP
    rw [hnb] at hv F
    have hd0 : 0 ≤ x / 2 ^ (Builtin.Int.intBits y * (k - 1 - i)) % 2 ^ Builtin.Int.intBits y := Int.emod_nonneg _ (Int.ne_of_gt (Int.pow_pos (by decide)))
    have hd1 : x / 2 ^ (Builtin.Int.intBits y * (k - 1 - i)) % 2 ^ Builtin.Int.intBits y < 2 ^ Builtin.Int.intBits y := Int.emod_lt_of_pos _ (Int.pow_pos (by decide))
    have hB1 : (2 : Int) ^ Builtin.Int.intBits y ≤ 128 := by
      have h4 : (2 : Nat) ^ (Builtin.Int.intBits y) ≤ 2 ^ 7 := Nat.pow_le_pow_right (by decide) (by have := hpI.2.2.2.1; omega)
      have h5 : (((2 : Nat) ^ (Builtin.Int.intBits y) : Nat) : Int) ≤ ((2 ^ 7 : Nat) : Int) := Int.ofNat_le.mpr h4
      simpa using h5
    have hr0 := hLI.r0
    have hr1 := hLI.r1
    have hqs : qs.size ≤ sizeLine := by
      have e1 := hI.length
      have e2 := hLI.len
      rw [sizeLine_eq]
      simp only [Array.length_toList] at e1
      omega
    have hT0 : 0 ≤ r * 2 ^ (Builtin.Int.intBits y : Int).toNat := by rw [hnb]; exact Int.mul_nonneg hr0 (Int.le_of_lt (Int.pow_pos (by decide)))
    have hT1 : r * 2 ^ (Builtin.Int.intBits y : Int).toNat ≤ 128 * 128 := by
      rw [hnb]
      have e1 : r * 2 ^ Builtin.Int.intBits y ≤ r * 128 := Int.mul_le_mul_of_nonneg_left hB1 hr0
      omega
    generalize hdg : x / 2 ^ (Builtin.Int.intBits y * (k - 1 - i)) % 2 ^ Builtin.Int.intBits y = dg at *
    have hcall : 0 ≤ r * 2 ^ (Builtin.Int.intBits y : Int).toNat + dg ∧ r * 2 ^ (Builtin.Int.intBits y : Int).toNat + dg < 1000000 ∧ 0 < y ∧ y < 1000 ∧ 0 < (Builtin.Int.intBits y : Int) ∧ (Builtin.Int.intBits y : Int) < 100 := ⟨by omega, by omega, hp3, by omega, hpI.2.2.1, by have := hpI.2.2.2.1; omega⟩
    subst hM0
    clear kF kN F91 N91 nD nd nL
    dsimp only [Gz]
    clear Gz
    revert hk hdp hun hret hp1 hp2 hp3 hp4 hpI hg hQ1 hQ2 B' X' T' C1 C2 l1 hI' qk ek lq1 kF lq2 hnb hi N hI hLI hsz hdig hP hB1 hr0 hr1 hqs hT0 hT1 hdg hv hd0 hd1 hcall F
    exact hP_1 i hh tkk it r qs e ql tr vq va tv dg
  · intro m' news' hh tkk hJ F N
    refine Mine.Internal.nameGoal ?_
    intro Gz
    obtain ⟨r, qs, e, ql, hm, ⟨tr, hmr⟩, rfl, hI, hLI⟩ := hJ
    have em := map3 _ _ _ _ _ hm
    rw [hmr] at em
    generalize m' (Str.ofString "q_digit") = vq at em
    generalize m' (Str.ofString "a_digit") = va at em
    subst em
    clear hm hmr
    obtain ⟨hsz, hdig⟩ := hD'
    rw [hsz] at hLI
    subst hM0
    clear kF kN F91 N91 nD nd nL
    have hqs : qs.toList.length ≤ sizeLine := by
      have e1 := hI.length
      have e2 := hLI.len
      rw [sizeLine_eq]
      omega
    (try dsimp only)
    dsimp only [Gz]
    clear Gz
    revert hk hdp hun hret hp1 hp2 hp3 hp4 hpI hg hQ1 hQ2 B' X' T' C1 C2 l1 hI' qk ek lq1 kF lq2 hnb N hI hLI hsz hdig F hqs
    exact hP_2 hh tkk r qs e ql tr vq va⟩
noncomputable def r2_R1 (z : Sk) : Prop := r2_k.1 (z.n 0) (z.h 0) (z.n 1) (z.o 0) (z.i 0) (z.av 0) (z.n 2) (z.li 0) (z.t 0) (z.ov 0) (z.ov 1) (z.t 1) (z.i 1)
namespace r2_c1
def r := (skv r2_R1).i 0
def qs := (skv r2_R1).av 0
def ql := (skv r2_R1).li 0
def dg := (skv r2_R1).i 1
theorem r3 : r2_k.1 ((skv r2_R1).n 0) ((skv r2_R1).h 0) ((skv r2_R1).n 1) ((skv r2_R1).o 0) r qs ((skv r2_R1).n 2) ql ((skv r2_R1).t 0) ((skv r2_R1).ov 0) ((skv r2_R1).ov 1) ((skv r2_R1).t 1) dg := by
  intro hk hdp hun hret hp1 hp2 hp3 hp4 hpI hg hQ1 hQ2 B' X' T' C1 C2 l1 hI' qk ek lq1 kF lq2 hnb hi N hI hLI hsz hdig hP hB1 hr0 hr1 hqs hT0 hT1 hdg hv hd0 hd1 hcall F
  k_steps
  refine ⟨_, _, _, [(l', W.listOf (qs.push _) _), (d', W.listOf its' e'), (c', oc'), (65, u'), (72, o2)], rfl, (by assumption), cb_drop (by assumption) (by kcj_all), ?_⟩
  have st := LInv.step hp1 hp3 hi hLI
  rw [hdg] at st
  refine ⟨(r * 2 ^ (Builtin.Int.intBits y : Int).toNat + dg).fmod y, _, _, ql ++ [(r * 2 ^ (Builtin.Int.intBits y : Int).toNat + dg).fdiv y], fun z h1 h2 h3 => ?_, ⟨_, if_pos rfl⟩, rfl, ?_, ?_⟩
  · simp only [if_neg h1, if_neg h2, if_neg h3]
  · rw [Array.toList_push]
    exact IntsAre.append hI (.cons _ _ .nil)
  · rw [hnb]; exact st
end r2_c1
noncomputable def r2_R2 (z : Sk) : Prop := r2_k.2.1 (z.h 0) (z.n 0) (z.i 0) (z.av 0) (z.n 1) (z.li 0) (z.t 0) (z.ov 0) (z.ov 1)
namespace r2_c2
def r := (skv r2_R2).i 0
def qs := (skv r2_R2).av 0
def e := (skv r2_R2).n 1
def ql := (skv r2_R2).li 0
def tr := (skv r2_R2).t 0
noncomputable def r4_k : Σ' (P1 : Heap → Tok → Heap → Nat → Obj → Addr → Obj → Prop), (∀ hzz4y1 t8 h8 tz8 u8 c8 oc8, P1 hzz4y1 t8 h8 tz8 u8 c8 oc8) → r2_k.2.1 ((skv r2_R2).h 0) ((skv r2_R2).n 0) r qs e ql tr ((skv r2_R2).ov 0) ((skv r2_R2).ov 1) := ⟨_, by
  intro hP_1 
  intro hk hdp hun hret hp1 hp2 hp3 hp4 hpI hg hQ1 hQ2 B' X' T' C1 C2 l1 hI' qk ek lq1 kF lq2 hnb N hI hLI hsz hdig F hqs
  k_steps
  (with_reducible rename Fr _ _ _ _ => jF)
  (with_reducible rename News _ _ _ _ => jN)
  have hLL : Heap.IsList _ l' qs.toList.reverse.toArray := ⟨_, (jN _ (.head _)).1, rfl, _, rfl⟩
  have jn : News g' L' _ [(72, o2)] := cb_drop jN (by kcj_all)
  have hl72 : l' ≠ 72 := fun e => by rw [e] at lq1; exact absurd lq1.2.2.2 (Nat.lt_irrefl _)
  k_here
  k_dflt (refine' d2i_U w _ _ qs.toList.reverse ql.reverse _ t1 _ _ _ _ _ _ _ _ _ _ _ _ _ _ _ _ _ _ _ _ _ ?k1 ?k2 ?k3 ?k4 ?k5 ?k6 ?kC1 ?kC2 ?k8 ?k9 ?k10 ?_; (case k1 => k_asm); (case k2 => k_asm); (case k3 => k_asm); (case k4 => exact jn); (case k5 => k_asm); (case k6 => exact rfl); (case kC1 => assumption); (case kC2 => assumption); (case k8 => exact ⟨hQ2.mono jF.keep, hl72, hLL, intsRev hI, by rw [List.length_reverse, hLI.len]; exact hpI.2.2.2.2.2.1, hpI.2.2.1, hpI.2.2.2.1, fun q hq => by rw [hnb]; exact hLI.dig q (List.mem_reverse.mp hq)⟩); (case k9 => ktr_room); (case k10 => ktr_units); k_whole)
  intro t8 h8 tz8 kb8 j8
  obtain ⟨u8, c8, oc8, F8, N8, hTP⟩ := dpLed jF jN hI' hQ2 kb8 j8
  clear jF jN jn
  (try dsimp only)
  rename_i hzz4y1
  revert hk hdp hun hret hp1 hp2 hp3 hp4 hpI hg hQ1 hQ2 B' X' T' C1 C2 l1 hI' qk ek lq1 kF lq2 hnb hI hLI hsz hdig hqs hLL hl72 kb8 j8 F8 N8 hTP
  exact hP_1 hzz4y1 t8 h8 tz8 u8 c8 oc8⟩
noncomputable def r4_R (z : Sk) : Prop := r4_k.1 (z.h 0) (z.t 0) (z.h 1) (z.n 0) (z.o 0) (z.a 0) (z.o 1)
namespace r4_c
def t8 := (skv r4_R).t 0
theorem r5 : r4_k.1 ((skv r4_R).h 0) t8 ((skv r4_R).h 1) ((skv r4_R).n 0) ((skv r4_R).o 0) ((skv r4_R).a 0) ((skv r4_R).o 1) := by
  intro hk hdp hun hret hp1 hp2 hp3 hp4 hpI hg hQ1 hQ2 B' X' T' C1 C2 l1 hI' qk ek lq1 kF lq2 hnb hI hLI hsz hdig hqs hLL hl72 kb8 j8 F8 N8 hTP
  k_steps
  (with_reducible rename Fr _ _ _ _ => zF)
  (with_reducible rename News _ _ _ _ => zN)
  rename_i D9 h9 l9
  have z1 := zN _ (.head _)
  have er : r = x % y := by have := hLI.rr; simpa using this
  have eq : dval ql.reverse (Builtin.Int.intBits y : Int).toNat 0 ql.reverse.length = x / y := by
    have := hLI.qq
    rw [dval_rev, hnb]
    simpa using this
  have hD : D9 ∉ ([65, 72] : List Addr) := fun hm => by
    rcases List.mem_cons.mp hm with e | hm
    · rw [e] at l9; exact absurd l9.2.2.1 (Nat.lt_irrefl _)
    · rw [List.mem_singleton.mp hm] at l9; exact absurd l9.2.2.2 (Nat.lt_irrefl _)
  (try dsimp only)
  refine hret D9 t8 tr h9 _ (hTP _ _ hg zF.keep fun p hp => zN _ (.tail _ hp)) (none_hide hg z1.2.2 hD) (z1.1.trans (congrArg some ?_))
  rw [← er, ← eq]
end r4_c
theorem r4  : r2_k.2.1 ((skv r2_R2).h 0) ((skv r2_R2).n 0) r qs e ql tr ((skv r2_R2).ov 0) ((skv r2_R2).ov 1) :=
  r4_k.2 (fun hzz4y1 t8 h8 tz8 u8 c8 oc8 => skva r4_R r4_c.r5 (sk_h hzz4y1 <| sk_t t8 <| sk_h h8 <| sk_n tz8 <| sk_o u8 <| sk_a c8 <| sk_o oc8 <| dS)) 
end r2_c2
theorem r2  : r1_k.1 ((skv r1_R).h 0) d' c' oc' u' its' e' ((skv r1_R).h 1) ((skv r1_R).n 1) ((skv r1_R).h 2) ((skv r1_R).n 2) ((skv r1_R).h 3) l' ((skv r1_R).h 4) ((skv r1_R).h 5) D' hq6 :=
  r2_k.2.2 (fun i hh tkk it r qs e ql tr vq va tv dg => skva r2_R1 r2_c1.r3 (sk_n i <| sk_h hh <| sk_n tkk <| sk_o it <| sk_i r <| sk_av qs <| sk_n e <| sk_li ql <| sk_t tr <| sk_ov vq <| sk_ov va <| sk_t tv <| sk_i dg <| dS)) (fun hh tkk r qs e ql tr vq va => skva r2_R2 r2_c2.r4 (sk_h hh <| sk_n tkk <| sk_i r <| sk_av qs <| sk_n e <| sk_li ql <| sk_t tr <| sk_ov vq <| sk_ov va <| dS)) 
end r1_c
theorem r1  : dp_U_k.1 w ((skv dp_U_R).o 0) o2 x y k t1 ((skv dp_U_R).t 1) ((skv dp_U_R).em 0) ((skv dp_U_R).m 0) ((skv dp_U_R).m 1) ((skv dp_U_R).n 1) ((skv dp_U_R).n 2) ((skv dp_U_R).oc 0) ((skv dp_U_R).x 0) ((skv dp_U_R).sc 0) ((skv dp_U_R).a 0) ((skv dp_U_R).v 0) ((skv dp_U_R).sa 0) ((skv dp_U_R).le 0) ((skv dp_U_R).ar 0) ((skv dp_U_R).h 0) ((skv dp_U_R).h 1) ((skv dp_U_R).a 1) ((skv dp_U_R).m 2) ((skv dp_U_R).s 0) ((skv dp_U_R).q 0) ((skv dp_U_R).q 1) g' L' ((skv dp_U_R).h 3) :=
  r1_k.2 (fun hzz1y1 d' c' oc' u' its' e' hq1 tkq hq2 tk hq3 l' hq4 hq5 D' hq6 => skva r1_R r1_c.r2 (sk_h hzz1y1 <| sk_a d' <| sk_a c' <| sk_o oc' <| sk_o u' <| sk_av its' <| sk_n e' <| sk_h hq1 <| sk_n tkq <| sk_h hq2 <| sk_n tk <| sk_h hq3 <| sk_a l' <| sk_h hq4 <| sk_h hq5 <| sk_a D' <| sk_h hq6 <| dS)) 
end dp_U_c
theorem dp_U (w : World) (o1 o2 : Obj) (x y : Int) (k : Nat) (t1 t2 : Tok) : CtrT w 24 240 84 [(65, o1), (72, o2)] [.int x t1, .int y t2] (fun h => TQ h o1 o2 ∧ 0 ≤ x ∧ x < 128 ∧ 0 < y ∧ y < 128 ∧
      (0 ≤ x ∧ x < 128 ∧ 0 < (Builtin.Int.intBits y : Int) ∧ (Builtin.Int.intBits y : Int) < 8 ∧ (↑(Builtin.Int.intBits x) + (Builtin.Int.intBits y : Int) - 1).fdiv (Builtin.Int.intBits y) = (k : Int) ∧ k ≤ 7 ∧ x < 2 ^ ((Builtin.Int.intBits y : Int).toNat * k) ∧ (x = 0 → k = 0) ∧ (x ≠ 0 → 0 < k)))
      (fun _ s Q => ∀ (d : Addr) (t1 t2 : Tok) (hz : Heap) (tz : Nat), TP s.heap hz o1 o2 → s.heap.get? d = none → hz.get? d = some (tup2I (x / y) (x % y) t1 t2) → Q (.ref d) { s with heap := hz, toks := tz }) :=
  dp_U_k.2 (fun w o1 o2 x y k t1 t2 mean mg mb dp un gd cn cs a ccd cl outer A₀ base h₀ L m s Q E g' L' h' => skva dp_U_R dp_U_c.r1 (sk_w w <| sk_o o1 <| sk_o o2 <| sk_i x <| sk_i y <| sk_n k <| sk_t t1 <| sk_t t2 <| sk_em mean <| sk_m mg <| sk_m mb <| sk_n dp <| sk_n un <| sk_oc gd <| sk_x cn <| sk_sc cs <| sk_a a <| sk_v ccd <| sk_sa cl <| sk_le outer <| sk_ar A₀ <| sk_h base <| sk_h h₀ <| sk_a L <| sk_m m <| sk_s s <| sk_q Q <| sk_q E <| sk_h g' <| sk_a L' <| sk_h h' <| dS)) w o1 o2 x y k t1 t2
end Mine.Internal
end
section
local macro_rules | `(tactic| omega) => `(tactic| lia)
noncomputable section -- Kdvm0
open PySem PySem.W PyProof.Rows
namespace Mine.Internal
set_option Elab.async false
theorem bits_lt {x : Int} (h0 : 0 ≤ x) : x < 2 ^ Builtin.Int.intBits x := by
  unfold Builtin.Int.intBits
  split
  · rename_i h
    have : x = 0 := by simpa using h
    subst this; decide
  · have h1 := Nat.lt_log2_self (n := x.natAbs)
    have h2 : (x.natAbs : Int) < ((2 ^ (x.natAbs.log2 + 1) : Nat) : Int) := Int.ofNat_lt.mpr h1
    rw [Int.natAbs_of_nonneg h0] at h2
    simpa using h2
theorem bits_zero {x : Int} (h : x ≠ 0) : 0 < Builtin.Int.intBits x := by
  unfold Builtin.Int.intBits
  split
  · rename_i h'; exact absurd (by simpa using h') h
  · omega
theorem digits_k {x y : Int} (h1 : 0 ≤ x) (h2 : x < 128) (h3 : 0 < y) (h4 : y < 128) : ∃ k : Nat, (0 ≤ x ∧ x < 128 ∧ 0 < (Builtin.Int.intBits y : Int) ∧ (Builtin.Int.intBits y : Int) < 8 ∧ (↑(Builtin.Int.intBits x) + (Builtin.Int.intBits y : Int) - 1).fdiv (Builtin.Int.intBits y) = (k : Int) ∧ k ≤ 7 ∧ x < 2 ^ ((Builtin.Int.intBits y : Int).toNat * k) ∧ (x = 0 → k = 0) ∧ (x ≠ 0 → 0 < k)) := by
  have bx := bits_small (k := 7) h1 h2
  have by' := bits_small (k := 7) (Int.le_of_lt h3) h4
  have b0 := bits_zero (Int.ne_of_gt h3)
  have lx := bits_lt h1
  have bx0 : x = 0 → Builtin.Int.intBits x = 0 := by rintro rfl; rfl
  have bx1 : x ≠ 0 → 0 < Builtin.Int.intBits x := bits_zero
  generalize Builtin.Int.intBits x = X at *
  generalize Builtin.Int.intBits y = Y at *
  have hk : (↑X + (Y : Int) - 1).fdiv (Y : Int) = (((X + Y - 1) / Y : Nat) : Int) := by
    rw [Int.fdiv_eq_ediv_of_nonneg _ (by omega)]
    have : (X : Int) + Y - 1 = ((X + Y - 1 : Nat) : Int) := by omega
    rw [this]; exact (Int.natCast_ediv _ _).symm
  have hm := Nat.div_add_mod (X + Y - 1) Y
  have hlt := Nat.mod_lt (X + Y - 1) b0
  refine ⟨(X + Y - 1) / Y, h1, h2, by omega, by omega, hk, ?_, ?_, ?_, ?_⟩
  · have : (X + Y - 1) / Y ≤ X := by
      by_cases hx : X = 0
      · rw [hx, Nat.zero_add, Nat.div_eq_of_lt (by omega)]; omega
      · apply Nat.div_le_of_le_mul
        have : X + Y - 1 ≤ Y * X := by
          obtain ⟨a, rfl⟩ : ∃ a, X = a + 1 := ⟨X - 1, by omega⟩
          obtain ⟨b, rfl⟩ : ∃ b, Y = b + 1 := ⟨Y - 1, by omega⟩
          rw [Nat.mul_add, Nat.add_mul]
          have := Nat.zero_le (b * a)
          omega
        exact this
    omega
  · refine Int.lt_of_lt_of_le lx ?_
    rw [Int.toNat_natCast]
    generalize (X + Y - 1) / Y = q at *
    have hq : X ≤ Y * q := by omega
    have h5 : (2 : Nat) ^ X ≤ 2 ^ (Y * q) := Nat.pow_le_pow_right (by decide) hq
    have h6 : (((2 : Nat) ^ X : Nat) : Int) ≤ (((2 : Nat) ^ (Y * q) : Nat) : Int) := Int.ofNat_le.mpr h5
    simpa using h6
  · intro e
    rw [bx0 e, Nat.zero_add]
    exact Nat.div_eq_of_lt (by omega)
  · intro e
    exact Nat.div_pos (by have := bx1 e; omega) b0
theorem inv_div {a b : Int} (hb : 0 < b) : a / b = -1 - (-1 - a) / b ∧ a % b = b - 1 - (-1 - a) % b := by
  have h1 := Int.mul_ediv_add_emod (-1 - a) b
  have h2 := Int.emod_nonneg (-1 - a) (Int.ne_of_gt hb)
  have h3 := Int.emod_lt_of_pos (-1 - a) hb
  generalize (-1 - a) / b = q at *
  generalize (-1 - a) % b = r at *
  have e : a = (b - 1 - r) + (-1 - q) * b := by
    rw [Int.sub_mul, Int.mul_comm q]; omega
  constructor
  · rw [e, Int.add_mul_ediv_right _ _ (Int.ne_of_gt hb), Int.ediv_eq_zero_of_lt (by omega) (by omega)]; omega
  · rw [e, Int.add_mul_emod_self_right, Int.emod_eq_of_lt (by omega) (by omega)]
end Mine.Internal
end
end
noncomputable section -- Kim
theorem Mine.Internal.wTopOff8 : True := by w_top off; trivial
local macro_rules
  | `(tactic| walk_at $s:str) => match [("eval BinOp", "#bin"), ("spliced", "#args"), ("isTrue Compare", "#cmp"), ("exec Assign", "#asg0"), ("exec Return some", "#ret"), ("#step", "#st3"), ("#on", "#skip"), ("#om", "#omKim")].lookup s.getString with
    | some r => `(tactic| walk_at $(Lean.Syntax.mkStrLit r))
    | none => Lean.Macro.throwUnsupported
theorem Mine.Internal.kwN_Kim : True := by
  k_with "#omKim" => (first | decide | (with_reducible first | assumption | walk_at "#nz" | exact Nat.succ_le_of_lt ‹_› | exact Mine.Internal.u0 ‹_› | exact Mine.Internal.u1 ‹_› (by decide) | exact Mine.Internal.u2 ‹_› (by decide) | exact Mine.Internal.u3 ‹_› (by decide) | exact Mine.Internal.leC ‹_› (by decide) | exact Mine.Internal.ltC ‹_› (by decide) | exact Mine.Internal.ltD ‹_› (by decide) | exact Mine.Internal.leD ‹_› (by decide) | exact Mine.Internal.iltC ‹_› (by decide) | exact Mine.Internal.ileC ‹_› (by decide) | exact Mine.Internal.iltD ‹_› (by decide) | exact Mine.Internal.ileD ‹_› (by decide) | exact Mine.Internal.igtC ‹_› (by decide) | exact Mine.Internal.igeC ‹_› (by decide) | exact Mine.Internal.igtP ‹_› (by decide) | exact Mine.Internal.igeP ‹_› (by decide) | exact Mine.Internal.cltC ‹_› (by decide) | exact Mine.Internal.cleC ‹_› (by decide) | exact Mine.Internal.cgtC (by decide) | exact Mine.Internal.cgeC (by decide) | exact Mine.Internal.leE ‹_› ‹_› (by decide) | exact Mine.Internal.ltE ‹_› ‹_› (by decide) | exact Mine.Internal.cltE ‹_› ‹_› (by decide) | exact Mine.Internal.cltF ‹_› ‹_› (by decide) | exact Mine.Internal.cleF ‹_› ‹_› (by decide) | exact Mine.Internal.leF ‹_› ‹_› (by decide) | fail "om: none"))
  trivial
open PySem PySem.W PyProof.Rows
namespace Mine.Internal
set_option Elab.async false
noncomputable abbrev RetU (o1 o2 : Obj) (P : Int → Int → Prop) (s : Shared) (Q : Value → Shared → Prop) : Prop :=
  ∀ (q r : Int) (d : Addr) (t1 t2 : Tok) (hz : Heap) (tz : Nat), P q r → TP s.heap hz o1 o2 → s.heap.get? d = none → hz.get? d = some (tup2I q r t1 t2) → Q (.ref d) { s with heap := hz, toks := tz }
noncomputable abbrev Ret1 (P : Int → Int → Prop) (s : Shared) (Q : Value → Shared → Prop) : Prop :=
  ∀ (q r : Int) (d : Addr) (t1 t2 : Tok) (hz : Heap) (tz : Nat), P q r → Keep s.heap hz → s.heap.get? d = none → hz.get? d = some (tup2I q r t1 t2) → Q (.ref d) { s with heap := hz, toks := tz }
theorem keepBut_trans {as : List Addr} {h h' h'' : Heap} (k : KeepBut as h h') (k' : KeepBut as h' h'') : KeepBut as h h'' := fun b o hb e => k' b o hb (k b o hb e)
theorem none_keep {h h' : Heap} {d : Addr} (k : Keep h h') (hn : h'.get? d = none) : h.get? d = none := by
  cases q : h.get? d with
  | none => rfl
  | some o => rw [k _ _ q] at hn; cases hn
theorem imp_U (w : World) (o1 o2 : Obj) (x y : Int) (t1 t2 : Tok) :
    CtrT w 28 280 91 [(65, o1), (72, o2)] [.int x t1, .int y t2] (fun h => TQ h o1 o2 ∧ 0 ≤ x ∧ x < 128 ∧ 0 < y ∧ y < 128) (fun _ => RetU o1 o2 fun q r => q = x / y ∧ r = x % y) := by
  dsimp only [CtrT, P0, LS, RetU]
  k_fill
  intro mean mg mb dp un gd cn cs a ccd cl outer A₀ base h₀ L m s Q E B F X N T hk C1 C2 hpre hdp hun hret
  obtain ⟨hQ, hp1, hp2, hp3, hp4⟩ := hpre
  obtain ⟨k, hk1⟩ := digits_k hp1 hp2 hp3 hp4
  have b1 := (N _ (.head _)).1
  have b2 := (N _ (.tail _ (.head _))).1
  have hQ0 := hQ.hide b1 b2
  refine wpAny_call ?_
  k_dflt (refine' enterT ?k1 ?k2 ?k3 ?k4 ?k5 ?kA ?kF ?kK ?k6 ?k7 ?k8 ?k9 ?kB ?kC1 ?kC2 ?_ ?c2 ?c3 ?c4 ?c5; walk_at "#c0"; k_whole)
  have hg0 : hideAll s.heap (List.map (·.1) [((65 : Addr), o1), (72, o2)]) = hideAll s.heap [65, 72] := rfl
  rw [hg0]
  generalize hg : hideAll s.heap [65, 72] = g' at *
  clear C1 C2 N F B X T hg0 hQ
  intro L' h' F' N' B' X' T' C1 C2 l1
  (try k_lt l1)
  (try dsimp only)
  (try k_lift B')
  (try k_fold)
  w_on
  k_steps
  all_goals (try (exfalso; omega))
  k_here
  k_dflt (refine' dp_U w o1 o2 x y k _ _ _ _ _ _ _ _ _ _ _ _ _ _ _ _ _ _ _ _ _ _ ?k1 ?k2 ?k3 ?k4 ?k5 ?k6 ?kC1 ?kC2 ?k8 ?k9 ?k10 ?_; (case k1 => k_asm); (case k2 => k_asm); (case k3 => k_asm); (case k4 => k_asm); (case k5 => k_asm); (case k6 => exact rfl); (case kC1 => assumption); (case kC2 => assumption); (case k8 => exact ⟨hQ0.mono (by with_reducible (rename Fr _ _ _ _ => zF); exact zF.keep), hp1, hp2, hp3, hp4, hk1⟩); (case k9 => ktr_room); (case k10 => ktr_units); k_whole)
  intro d ta tb hz tz t0 dn dg
  (with_reducible rename Fr _ _ _ _ => zF)
  (with_reducible rename News _ _ _ _ => zN)
  have kp := keep_two hg zF.keep b1 b2 (zN _ (.head _)).1 (zN _ (.tail _ (.head _))).1
  exact hret _ _ d ta tb hz tz ⟨rfl, rfl⟩ (t0.keep kp) (none_keep kp dn) dg
end Mine.Internal
end
noncomputable section -- Kim2
theorem Mine.Internal.wTopOff9 : True := by w_top off; trivial
local macro_rules | `(tactic| walk_at "no such line") => `(tactic| fail)
local macro_rules
  | `(tactic| walk_at $s:str) => match [("eval BinOp", "#bin"), ("spliced", "#args"), ("isTrue Compare", "#cmp"), ("exec Assign", "#asg"), ("exec Return some", "#ret"), ("storeName", "#sto"), ("#step", "#st0"), ("#on", "#skip"), ("#om", "#omLKim2")].lookup s.getString with
    | some r => `(tactic| walk_at $(Lean.Syntax.mkStrLit r))
    | none => Lean.Macro.throwUnsupported
theorem Mine.Internal.kwM_Kim2 : True := by
  k_with "#omLKim2" => (first | walk_at "#omKim2" | lia)
  trivial
theorem Mine.Internal.kwN_Kim2 : True := by
  k_with "#omKim2" => (first | decide | (with_reducible first | assumption | walk_at "#nz" | exact Nat.succ_le_of_lt ‹_› | exact Mine.Internal.u0 ‹_› | exact Mine.Internal.u1 ‹_› (by decide) | exact Mine.Internal.u2 ‹_› (by decide) | exact Mine.Internal.u3 ‹_› (by decide) | exact Mine.Internal.leC ‹_› (by decide) | exact Mine.Internal.ltC ‹_› (by decide) | exact Mine.Internal.ltD ‹_› (by decide) | exact Mine.Internal.leD ‹_› (by decide) | exact Mine.Internal.iltC ‹_› (by decide) | exact Mine.Internal.ileC ‹_› (by decide) | exact Mine.Internal.iltD ‹_› (by decide) | exact Mine.Internal.ileD ‹_› (by decide) | exact Mine.Internal.igtC ‹_› (by decide) | exact Mine.Internal.igeC ‹_› (by decide) | exact Mine.Internal.igtP ‹_› (by decide) | exact Mine.Internal.igeP ‹_› (by decide) | exact Mine.Internal.cltC ‹_› (by decide) | exact Mine.Internal.cleC ‹_› (by decide) | exact Mine.Internal.cgtC (by decide) | exact Mine.Internal.cgeC (by decide) | exact Mine.Internal.leE ‹_› ‹_› (by decide) | exact Mine.Internal.ltE ‹_› ‹_› (by decide) | exact Mine.Internal.cltE ‹_› ‹_› (by decide) | exact Mine.Internal.cltF ‹_› ‹_› (by decide) | exact Mine.Internal.cleF ‹_› ‹_› (by decide) | exact Mine.Internal.leF ‹_› ‹_› (by decide) | fail "om: none"))
  trivial
open PySem PySem.W PyProof.Rows
namespace Mine.Internal
set_option Elab.async false
noncomputable def im_U_k : Σ' (P1 : World → Obj → Obj → Int → Int → Tok → Tok → (ExcName → Option Value) → (Str → Option Value) → (Str → Option Value) → Nat → Nat → (Option (List Code)) → Str → Scope → Addr → Value → (List (Str × Addr)) → (List Env) → Around → Heap → Heap → Addr → (Str → Option Value) → Shared → (Value → Shared → Prop) → (Value → Shared → Prop) → Heap → Addr → Heap → Prop), (∀ w o1 o2 x y t1 t2 mean mg mb dp un gd cn cs a ccd cl outer A₀ base h₀ L m s Q E g' L' h', P1 w o1 o2 x y t1 t2 mean mg mb dp un gd cn cs a ccd cl outer A₀ base h₀ L m s Q E g' L' h') → ∀ (w : World) (o1 o2 : Obj) (x y : Int) (t1 t2 : Tok), CtrT w 32 320 91 [(65, o1), (72, o2)] [.int x t1, .int y t2] (fun h => TQ h o1 o2 ∧ -128 ≤ x ∧ x < 128 ∧ 0 < y ∧ y < 128) (fun _ => RetU o1 o2 fun q r => q = x / y ∧ r = x % y) := ⟨_, by
  intro hP_1 w o1 o2 x y t1 t2
  dsimp only [CtrT, P0, LS, RetU]
  k_fill
  intro mean mg mb dp un gd cn cs a ccd cl outer A₀ base h₀ L m s Q E B F X N T hk C1 C2 hpre hdp hun hret
  obtain ⟨hQ, hp1, hp2, hp3, hp4⟩ := hpre
  by_cases hx : 0 ≤ x
  · exact imp_U w o1 o2 x y t1 t2 mean mg mb dp un gd cn cs a ccd cl outer A₀ base h₀ L m s Q E B F X N T hk C1 C2 ⟨hQ, hx, hp2, hp3, hp4⟩ (by omega) (by omega) hret
  have hbn : ∀ z : Int, Builtin.bitNot z = -1 - z := fun z => by unfold Builtin.bitNot; omega
  have b1 := (N _ (.head _)).1
  have b2 := (N _ (.tail _ (.head _))).1
  have hQ0 := hQ.hide b1 b2
  refine wpAny_call ?_
  k_dflt (refine' enterT ?k1 ?k2 ?k3 ?k4 ?k5 ?kA ?kF ?kK ?k6 ?k7 ?k8 ?k9 ?kB ?kC1 ?kC2 ?_ ?c2 ?c3 ?c4 ?c5; walk_at "#c0"; k_whole)
  have hg0 : hideAll s.heap (List.map (·.1) [((65 : Addr), o1), (72, o2)]) = hideAll s.heap [65, 72] := rfl
  rw [hg0]
  generalize hg : hideAll s.heap [65, 72] = g' at *
  clear C1 C2 N F B X T hg0 hQ
  intro L' h' F' N' B' X' T' C1 C2 l1
  (try k_lt l1)
  (try dsimp only)
  (try k_lift B')
  (try k_fold)
  revert hk hdp hun hret hp1 hp2 hp3 hp4 hx hbn b1 b2 hg hQ0 F' N' B' X' T' C1 C2 l1
  exact hP_1 w o1 o2 x y t1 t2 mean mg mb dp un gd cn cs a ccd cl outer A₀ base h₀ L m s Q E g' L' h'⟩
noncomputable def im_U_R (z : Sk) : Prop := im_U_k.1 (z.w 0) (z.o 0) (z.o 1) (z.i 0) (z.i 1) (z.t 0) (z.t 1) (z.em 0) (z.m 0) (z.m 1) (z.n 0) (z.n 1) (z.oc 0) (z.x 0) (z.sc 0) (z.a 0) (z.v 0) (z.sa 0) (z.le 0) (z.ar 0) (z.h 0) (z.h 1) (z.a 1) (z.m 2) (z.s 0) (z.q 0) (z.q 1) (z.h 2) (z.a 2) (z.h 3)
namespace im_U_c
def w := (skv im_U_R).w 0
def o1 := (skv im_U_R).o 0
def o2 := (skv im_U_R).o 1
def x := (skv im_U_R).i 0
def y := (skv im_U_R).i 1
def a := (skv im_U_R).a 0
set_option Elab.async false
theorem r1 : im_U_k.1 w o1 o2 x y ((skv im_U_R).t 0) ((skv im_U_R).t 1) ((skv im_U_R).em 0) ((skv im_U_R).m 0) ((skv im_U_R).m 1) ((skv im_U_R).n 0) ((skv im_U_R).n 1) ((skv im_U_R).oc 0) ((skv im_U_R).x 0) ((skv im_U_R).sc 0) a ((skv im_U_R).v 0) ((skv im_U_R).sa 0) ((skv im_U_R).le 0) ((skv im_U_R).ar 0) ((skv im_U_R).h 0) ((skv im_U_R).h 1) ((skv im_U_R).a 1) ((skv im_U_R).m 2) ((skv im_U_R).s 0) ((skv im_U_R).q 0) ((skv im_U_R).q 1) ((skv im_U_R).h 2) ((skv im_U_R).a 2) ((skv im_U_R).h 3) := by
  intro hk hdp hun hret hp1 hp2 hp3 hp4 hx hbn b1 b2 hg hQ0 F' N' B' X' T' C1 C2 l1
  w_on
  k_steps
  all_goals (try (exfalso; omega))
  k_here
  rw [hbn]
  k_dflt (refine' imp_U w o1 o2 (-1 - x) y _ _ _ _ _ _ _ _ _ _ _ _ _ _ _ _ _ _ _ _ _ _ ?k1 ?k2 ?k3 ?k4 ?k5 ?k6 ?kC1 ?kC2 ?k8 ?k9 ?k10 ?_; (case k1 => k_asm); (case k2 => k_asm); (case k3 => k_asm); (case k4 => k_asm); (case k5 => k_asm); (case k6 => exact rfl); (case kC1 => assumption); (case kC2 => assumption); (case k8 => exact ⟨hQ0.mono (by with_reducible (rename Fr _ _ _ _ => zF); exact zF.keep), by omega, by omega, hp3, hp4⟩); (case k9 => ktr_room); (case k10 => ktr_units); k_whole)
  intro q r d ta tb hz tz hqr t0 dn dg
  obtain ⟨rfl, rfl⟩ := hqr
  (with_reducible rename Fr _ _ _ _ => zF)
  (with_reducible rename News _ _ _ _ => zN)
  have kp := keep_two hg zF.keep b1 b2 (zN _ (.head _)).1 (zN _ (.tail _ (.head _))).1
  obtain ⟨u1, u2, c1, oc1, c2, oc2, F8, N8, hTP⟩ := TP.led zF zN hQ0 t0 dn dg
  clear zF zN
  (try dsimp only)
  k_steps
  (with_reducible rename Fr _ _ _ _ => zF)
  (with_reducible rename News _ _ _ _ => zN)
  rename_i tk9 D9 h9 l9
  have z1 := zN _ (.head _)
  have hD : D9 ∉ ([65, 72] : List Addr) := fun hm => by
    rcases List.mem_cons.mp hm with e | hm
    · rw [e] at l9; exact absurd l9.2.2.2.1 (Nat.lt_irrefl _)
    · rw [List.mem_singleton.mp hm] at l9; exact absurd l9.2.2.2.2 (Nat.lt_irrefl _)
  have hi := inv_div (a := x) hp3
  (try dsimp only)
  refine hret _ _ D9 _ _ h9 _ ⟨?_, ?_⟩ (hTP _ _ kp zF.keep (keepBut_hide hg zF.keep) fun p hp => zN _ (.tail _ (.tail _ hp))) (none_hide hg z1.2.2 hD) z1.1
  · rw [hbn]; exact hi.1.symm
  · rw [hbn, hi.2]; omega
end im_U_c
set_option Elab.async false
theorem im_U (w : World) (o1 o2 : Obj) (x y : Int) (t1 t2 : Tok) : CtrT w 32 320 91 [(65, o1), (72, o2)] [.int x t1, .int y t2] (fun h => TQ h o1 o2 ∧ -128 ≤ x ∧ x < 128 ∧ 0 < y ∧ y < 128) (fun _ => RetU o1 o2 fun q r => q = x / y ∧ r = x % y) :=
  im_U_k.2 (fun w o1 o2 x y t1 t2 mean mg mb dp un gd cn cs a ccd cl outer A₀ base h₀ L m s Q E g' L' h' => skva im_U_R im_U_c.r1 (sk_w w <| sk_o o1 <| sk_o o2 <| sk_i x <| sk_i y <| sk_t t1 <| sk_t t2 <| sk_em mean <| sk_m mg <| sk_m mb <| sk_n dp <| sk_n un <| sk_oc gd <| sk_x cn <| sk_sc cs <| sk_a a <| sk_v ccd <| sk_sa cl <| sk_le outer <| sk_ar A₀ <| sk_h base <| sk_h h₀ <| sk_a L <| sk_m m <| sk_s s <| sk_q Q <| sk_q E <| sk_h g' <| sk_a L' <| sk_h h' <| dS)) w o1 o2 x y t1 t2
theorem im_T1 (w : World) (c1 : Addr) (oc1 : Obj) (vs1 : Array Value) (tq1 : Tok) (c2 : Addr) (oc2 : Obj) (vs2 : Array Value) (tq2 : Tok) (x y : Int) (t1 t2 : Tok) :
    CtrT w 32 320 91 [(65, tab65 c1), (72, tab72 c2)] [.int x t1, .int y t2] (fun h => TFa h c1 oc1 vs1 tq1 c2 oc2 vs2 tq2 ∧ -128 ≤ x ∧ x < 128 ∧ 0 < y ∧ y < 128) (fun _ => Ret1 fun q r => q = x / y ∧ r = x % y) := by
  intro mean mg mb dp un gd cn cs a ccd cl outer A₀ base h₀ L m s Q E B F X N T hk C1 C2 hpre hdp hun hret
  exact im_U w _ _ x y t1 t2 mean mg mb dp un gd cn cs a ccd cl outer A₀ base h₀ L m s Q E B F X N T hk C1 C2 ⟨hpre.1.tq, hpre.2⟩ hdp hun fun q r d t1 t2 hz tz hP j => hret q r d t1 t2 hz tz hP (j.toKeep hpre.1.g1 hpre.1.g2)
end Mine.Internal
end
noncomputable section -- Kmm
open PySem PySem.W PyProof.Rows PySem.Flt
namespace Mine.Internal
noncomputable abbrev ltF (x y : UInt64) : Bool := Float64.cmp x y == some Ordering.lt
noncomputable def max3F (x y z : UInt64) : UInt64 := if ltF x y = true then (if ltF y z = true then z else y) else (if ltF x z = true then z else x)
noncomputable def min3F (x y z : UInt64) : UInt64 := if ltF y x = true then (if ltF z y = true then z else y) else (if ltF z x = true then z else x)
section
variable {prog : Program} {w : World} {A : Around} {E : Value → Shared → Prop} {s : Shared} {Q : Value → Shared → Prop} {x y z : UInt64} {t u v : Tok} {h₀ : Heap} {L : Addr} {m : Str → Option Value} {news : List (Addr × Obj)}
theorem tup3_fp {a b c : Value} (d : Addr) (hd : d ∈ [(s.heap.push { cls := .type "tuple", data := .seq #[a, b, c] }).objs.size, s.heap.objs.size]) (o : Obj) :
    d < ((s.heap.push { cls := .type "tuple", data := .seq #[a, b, c] }).push o).objs.size := by
  have e : ((s.heap.push { cls := .type "tuple", data := .seq #[a, b, c] }).push o).objs.size = s.heap.objs.size + 2 := by rw [Heap.size_push, Heap.size_push]
  have hd' : d = s.heap.objs.size + 1 ∨ d = s.heap.objs.size := by simpa [Heap.size_push] using hd
  show @LT.lt Nat _ d _
  rw [e]
  rcases hd' with e' | e'
  · rw [e']; exact Nat.lt_succ_self _
  · rw [e']; exact Nat.lt_add_of_pos_right (by decide)
theorem max3_ff (hh : A.handled = none) (F : Fr h₀ L s.heap m) (N : News h₀ L s.heap news)
    (h : ∀ h' tk v, Fr h₀ L h' m → News h₀ L h' news → Q (.float (max3F x y z) v) { s with heap := h', toks := tk }) :
    wpAny (model prog w) A (call (.builtin "max") [.float x t, .float y u, .float z v]) Q E s := by
  have hT : (s.heap.push { cls := .type "tuple", data := .seq #[.float x t, .float y u, .float z v] }).IsTuple s.heap.objs.size #[.float x t, .float y u, .float z v] := ⟨_, Heap.get?_push_size _ rfl, rfl, 0, rfl⟩
  refine call_max_three (wpAny_pyIter_tuple hT ?_)
  have hsz : (s.heap.push { cls := .type "tuple", data := .seq #[.float x t, .float y u, .float z v] }).objs.size = s.heap.objs.size + 1 := Heap.size_push ..
  refine ⟨_, [_, s.heap.objs.size], [_], _, _, _, _, rfl, Walks.tuple (A := A.in1) hh _ s.heap.objs.size (by rw [hsz]; exact Nat.ne_of_lt (Nat.lt_succ_self _)) #[.float x t, .float y u, .float z v],
    ⟨⟨_, Heap.get?_push_size _ rfl, rfl, rfl⟩, hT.push _⟩, fun d hd => tup3_fp d hd _, by simp, cmpOf_gt #[.float x t, .float y u, .float z v] (by intro v hv; simp at hv; rcases hv with rfl | rfl | rfl <;> exact .float _ _), fun r h' tk hP hk => ?_⟩
  have kp : ∀ d o, s.heap.get? d = some o → h'.get? d = some o := fun d o e => by
    refine hk d o (fun hm => ?_) (Heap.get?_push_of_some _ (Heap.get?_push_of_some _ e))
    have h1 := Heap.lt_size e
    rw [List.mem_singleton.mp hm, hsz] at h1
    exact absurd h1 (Nat.not_lt.mpr (Nat.le_succ _))
  have key := fun tok => h h' tk tok (F.grownK kp) (N.grown kp)
  have e1 : ltV (.float x t) (.float y u) = ltF x y := rfl
  have e2 : ltV (.float y u) (.float z v) = ltF y z := rfl
  have e3 : ltV (.float x t) (.float z v) = ltF x z := rfl
  unfold max3F at key
  cases c1 : ltF x y <;> cases c2 : ltF y z <;> cases c3 : ltF x z <;> simp [argBest, e1, e2, e3, c1, c2, c3] at hP key <;> subst hP <;> exact key _
theorem min3_ff (hh : A.handled = none) (F : Fr h₀ L s.heap m) (N : News h₀ L s.heap news)
    (h : ∀ h' tk v, Fr h₀ L h' m → News h₀ L h' news → Q (.float (min3F x y z) v) { s with heap := h', toks := tk }) :
    wpAny (model prog w) A (call (.builtin "min") [.float x t, .float y u, .float z v]) Q E s := by
  have hT : (s.heap.push { cls := .type "tuple", data := .seq #[.float x t, .float y u, .float z v] }).IsTuple s.heap.objs.size #[.float x t, .float y u, .float z v] := ⟨_, Heap.get?_push_size _ rfl, rfl, 0, rfl⟩
  refine call_min_three (wpAny_pyIter_tuple hT ?_)
  have hsz : (s.heap.push { cls := .type "tuple", data := .seq #[.float x t, .float y u, .float z v] }).objs.size = s.heap.objs.size + 1 := Heap.size_push ..
  refine ⟨_, [_, s.heap.objs.size], [_], _, _, _, _, rfl, Walks.tuple (A := A.in1) hh _ s.heap.objs.size (by rw [hsz]; exact Nat.ne_of_lt (Nat.lt_succ_self _)) #[.float x t, .float y u, .float z v],
    ⟨⟨_, Heap.get?_push_size _ rfl, rfl, rfl⟩, hT.push _⟩, fun d hd => tup3_fp d hd _, by simp, cmpOf_lt #[.float x t, .float y u, .float z v] (by intro v hv; simp at hv; rcases hv with rfl | rfl | rfl <;> exact .float _ _), fun r h' tk hP hk => ?_⟩
  have kp : ∀ d o, s.heap.get? d = some o → h'.get? d = some o := fun d o e => by
    refine hk d o (fun hm => ?_) (Heap.get?_push_of_some _ (Heap.get?_push_of_some _ e))
    have h1 := Heap.lt_size e
    rw [List.mem_singleton.mp hm, hsz] at h1
    exact absurd h1 (Nat.not_lt.mpr (Nat.le_succ _))
  have key := fun tok => h h' tk tok (F.grownK kp) (N.grown kp)
  have e1 : ltV (.float y u) (.float x t) = ltF y x := rfl
  have e2 : ltV (.float z v) (.float y u) = ltF z y := rfl
  have e3 : ltV (.float z v) (.float x t) = ltF z x := rfl
  unfold min3F at key
  cases c1 : ltF y x <;> cases c2 : ltF z y <;> cases c3 : ltF z x <;> simp [argBest, e1, e2, e3, c1, c2, c3] at hP key <;> subst hP <;> exact key _
end
end Mine.Internal
end
noncomputable section -- Krgb
theorem Mine.Internal.wTopOff10 : True := by w_top off; trivial
local macro_rules
  | `(tactic| walk_at $s:str) => match [("eval BinOp", "#bin"), ("spliced", "#args"), ("isTrue Compare", "#cmp"), ("exec Assign", "#asg"), ("exec Return some", "#ret"), ("storeName", "#sto"), ("#step", "#st0"), ("#on", "#skip"), ("call builtin:max", "#o1Krgb"), ("call builtin:min", "#o2Krgb")].lookup s.getString with
    | some r => `(tactic| walk_at $(Lean.Syntax.mkStrLit r))
    | none => Lean.Macro.throwUnsupported
open PySem PySem.W PyProof.Rows
namespace Mine.Internal
set_option Elab.async false
noncomputable abbrev eqF (x y : UInt64) : Bool := Float64.cmp x y == some Ordering.eq
noncomputable def rgbL (mx mn : UInt64) : UInt64 := Float64.div (Float64.add mx mn) 4611686018427387904
noncomputable def rgbS (mx mn : UInt64) : UInt64 := if leB (rgbL mx mn) 4602678819172646912 = true then Float64.div (Float64.sub mx mn) (Float64.add mx mn) else Float64.div (Float64.sub mx mn) (Float64.sub (Float64.sub 4611686018427387904 mx) mn)
noncomputable def rgbC (mx mn x : UInt64) : UInt64 := Float64.div (Float64.sub mx x) (Float64.sub mx mn)
noncomputable def rgbK (mx mn r g b : UInt64) : UInt64 := if eqF r mx = true then Float64.sub (rgbC mx mn b) (rgbC mx mn g) else if eqF g mx = true then Float64.sub (Float64.add 4611686018427387904 (rgbC mx mn r)) (rgbC mx mn b) else Float64.sub (Float64.add 4616189618054758400 (rgbC mx mn g)) (rgbC mx mn r)
noncomputable def rgbH (mx mn r g b : UInt64) : UInt64 := (Float64.divmod (Float64.div (rgbK mx mn r g b) 4618441417868443648) 4607182418800017408).snd
theorem Mine.Internal.kw1_Krgb : True := by
  k_with "#o1Krgb" => (k_here; (with_reducible show wpAny _ _ (call (Value.builtin _) [Value.float _ _, Value.float _ _, Value.float _ _]) _ _ _); k_dflt (refine' max3_ff ?k1 ?k2 ?k3 ?_; (case k1 => rfl); (case k2 => k_asm); (case k3 => k_asm); k_whole); intro h' tk' v' F' N'; (try dsimp only))
  k_with "#o2Krgb" => (k_here; (with_reducible show wpAny _ _ (call (Value.builtin _) [Value.float _ _, Value.float _ _, Value.float _ _]) _ _ _); k_dflt (refine' min3_ff ?k1 ?k2 ?k3 ?_; (case k1 => rfl); (case k2 => k_asm); (case k3 => k_asm); k_whole); intro h' tk' v' F' N'; (try dsimp only))
  trivial
noncomputable def rgb_spec_k : Σ' (P1 : World → (List (Addr × Obj)) → UInt64 → UInt64 → UInt64 → Tok → Tok → Tok → (ExcName → Option Value) → (Str → Option Value) → (Str → Option Value) → Nat → Nat → (Option (List Code)) → Str → Scope → Addr → Value → (List (Str × Addr)) → (List Env) → Around → Heap → Heap → Addr → (Str → Option Value) → Shared → (Value → Shared → Prop) → (Value → Shared → Prop) → Heap → Addr → Heap → Prop), (∀ w news r g b t1 t2 t3 mean mg mb dp un gd cn cs a ccd cl outer A₀ base h₀ L m s Q E gzz0y1 Lzz0y2 hzz0y3, P1 w news r g b t1 t2 t3 mean mg mb dp un gd cn cs a ccd cl outer A₀ base h₀ L m s Q E gzz0y1 Lzz0y2 hzz0y3) → ∀ (w : World) (news : List (Addr × Obj)) (r g b : UInt64) (t1 t2 t3 : Tok), Ctr w 8 80 28 news [.float r t1, .float g t2, .float b t3]
      (eqF (min3F r g b) (max3F r g b) = false ∧ Float64.isZero (Float64.sub (max3F r g b) (min3F r g b)) = false ∧ Float64.isZero (Float64.add (max3F r g b) (min3F r g b)) = false ∧ Float64.isZero (Float64.sub (Float64.sub 4611686018427387904 (max3F r g b)) (min3F r g b)) = false)
      (RetT3 news (rgbH (max3F r g b) (min3F r g b) r g b) (rgbL (max3F r g b) (min3F r g b)) (rgbS (max3F r g b) (min3F r g b))) := ⟨_, by
  intro hP_1 w news r g b t1 t2 t3
  dsimp only [Ctr, P0, LS, RetT3]
  k_fill
  intro mean mg mb dp un gd cn cs a ccd cl outer A₀ base h₀ L m s Q E B F X N T hk hpre hdp hun hret
  obtain ⟨hp1, hp2, hp3, hp4⟩ := hpre
  refine wpAny_call ?_
  k_dflt cell_enter
  rename_i gzz0y1 Lzz0y2 hzz0y3 FGzz0y4 Fzz0y5 Nzz0y6 Bzz0y7 Xzz0y8 Tzz0y9
  revert B F X N T hk hdp hun hret hp1 hp2 hp3 hp4 FGzz0y4 Fzz0y5 Nzz0y6 Bzz0y7 Xzz0y8 Tzz0y9 qk ek
  exact hP_1 w news r g b t1 t2 t3 mean mg mb dp un gd cn cs a ccd cl outer A₀ base h₀ L m s Q E gzz0y1 Lzz0y2 hzz0y3⟩
noncomputable def rgb_spec_R (z : Sk) : Prop := rgb_spec_k.1 (z.w 0) (z.ao 0) (z.u 0) (z.u 1) (z.u 2) (z.t 0) (z.t 1) (z.t 2) (z.em 0) (z.m 0) (z.m 1) (z.n 0) (z.n 1) (z.oc 0) (z.x 0) (z.sc 0) (z.a 0) (z.v 0) (z.sa 0) (z.le 0) (z.ar 0) (z.h 0) (z.h 1) (z.a 1) (z.m 2) (z.s 0) (z.q 0) (z.q 1) (z.h 2) (z.a 2) (z.h 3)
namespace rgb_spec_c
def r := (skv rgb_spec_R).u 0
def g := (skv rgb_spec_R).u 1
def b := (skv rgb_spec_R).u 2
theorem r1 : rgb_spec_k.1 ((skv rgb_spec_R).w 0) ((skv rgb_spec_R).ao 0) r g b ((skv rgb_spec_R).t 0) ((skv rgb_spec_R).t 1) ((skv rgb_spec_R).t 2) ((skv rgb_spec_R).em 0) ((skv rgb_spec_R).m 0) ((skv rgb_spec_R).m 1) ((skv rgb_spec_R).n 0) ((skv rgb_spec_R).n 1) ((skv rgb_spec_R).oc 0) ((skv rgb_spec_R).x 0) ((skv rgb_spec_R).sc 0) ((skv rgb_spec_R).a 0) ((skv rgb_spec_R).v 0) ((skv rgb_spec_R).sa 0) ((skv rgb_spec_R).le 0) ((skv rgb_spec_R).ar 0) ((skv rgb_spec_R).h 0) ((skv rgb_spec_R).h 1) ((skv rgb_spec_R).a 1) ((skv rgb_spec_R).m 2) ((skv rgb_spec_R).s 0) ((skv rgb_spec_R).q 0) ((skv rgb_spec_R).q 1) ((skv rgb_spec_R).h 2) ((skv rgb_spec_R).a 2) ((skv rgb_spec_R).h 3) := by
  intro B F X N T hk hdp hun hret hp1 hp2 hp3 hp4 FGzz0y4 Fzz0y5 Nzz0y6 Bzz0y7 Xzz0y8 Tzz0y9 qk ek
  k_steps
  all_goals first
    | (have e1 : rgbS (max3F r g b) (min3F r g b) = _ := if_pos (by assumption))
    | (have e1 : rgbS (max3F r g b) (min3F r g b) = _ := if_neg (Bool.eq_false_iff.mp (by assumption)))
  all_goals first
    | (have e2 : rgbK (max3F r g b) (min3F r g b) r g b = _ := if_pos (by assumption))
    | (have e2 : rgbK (max3F r g b) (min3F r g b) r g b = _ := (if_neg (Bool.eq_false_iff.mp (by assumption))).trans (if_pos (by assumption)))
    | (have e2 : rgbK (max3F r g b) (min3F r g b) r g b = _ := (if_neg (Bool.eq_false_iff.mp (by assumption))).trans (if_neg (Bool.eq_false_iff.mp (by assumption))))
  all_goals (simp only [rgbH, e1, e2, rgbC] at hret; exact hret _ _ _ _ _ _ (by assumption) (by assumption))
end rgb_spec_c
theorem rgb_spec (w : World) (news : List (Addr × Obj)) (r g b : UInt64) (t1 t2 t3 : Tok) : Ctr w 8 80 28 news [.float r t1, .float g t2, .float b t3]
      (eqF (min3F r g b) (max3F r g b) = false ∧ Float64.isZero (Float64.sub (max3F r g b) (min3F r g b)) = false ∧ Float64.isZero (Float64.add (max3F r g b) (min3F r g b)) = false ∧ Float64.isZero (Float64.sub (Float64.sub 4611686018427387904 (max3F r g b)) (min3F r g b)) = false)
      (RetT3 news (rgbH (max3F r g b) (min3F r g b) r g b) (rgbL (max3F r g b) (min3F r g b)) (rgbS (max3F r g b) (min3F r g b))) :=
  rgb_spec_k.2 (fun w news r g b t1 t2 t3 mean mg mb dp un gd cn cs a ccd cl outer A₀ base h₀ L m s Q E gzz0y1 Lzz0y2 hzz0y3 => skva rgb_spec_R rgb_spec_c.r1 (sk_w w <| sk_ao news <| sk_u r <| sk_u g <| sk_u b <| sk_t t1 <| sk_t t2 <| sk_t t3 <| sk_em mean <| sk_m mg <| sk_m mb <| sk_n dp <| sk_n un <| sk_oc gd <| sk_x cn <| sk_sc cs <| sk_a a <| sk_v ccd <| sk_sa cl <| sk_le outer <| sk_ar A₀ <| sk_h base <| sk_h h₀ <| sk_a L <| sk_m m <| sk_s s <| sk_q Q <| sk_q E <| sk_h gzz0y1 <| sk_a Lzz0y2 <| sk_h hzz0y3 <| dS)) w news r g b t1 t2 t3
end Mine.Internal
end
noncomputable section -- Knear
theorem Mine.Internal.wTopOff11 : True := by w_top off; trivial
local macro_rules | `(tactic| walk_at "no such line") => `(tactic| fail)
local macro_rules
  | `(tactic| walk_at $s:str) => match [("#step", "#st1"), ("#on", "#skip"), ("#om", "#omKnear")].lookup s.getString with
    | some r => `(tactic| walk_at $(Lean.Syntax.mkStrLit r))
    | none => Lean.Macro.throwUnsupported
theorem Mine.Internal.kwN_Knear : True := by
  k_with "#omKnear" => (first | decide | (with_reducible first | assumption | walk_at "#nz" | exact Nat.succ_le_of_lt ‹_› | exact Mine.Internal.u0 ‹_› | exact Mine.Internal.u1 ‹_› (by decide) | exact Mine.Internal.u2 ‹_› (by decide) | exact Mine.Internal.u3 ‹_› (by decide) | exact Mine.Internal.leC ‹_› (by decide) | exact Mine.Internal.ltC ‹_› (by decide) | exact Mine.Internal.ltD ‹_› (by decide) | exact Mine.Internal.leD ‹_› (by decide) | exact Mine.Internal.iltC ‹_› (by decide) | exact Mine.Internal.ileC ‹_› (by decide) | exact Mine.Internal.iltD ‹_› (by decide) | exact Mine.Internal.ileD ‹_› (by decide) | exact Mine.Internal.igtC ‹_› (by decide) | exact Mine.Internal.igeC ‹_› (by decide) | exact Mine.Internal.igtP ‹_› (by decide) | exact Mine.Internal.igeP ‹_› (by decide) | exact Mine.Internal.cltC ‹_› (by decide) | exact Mine.Internal.cleC ‹_› (by decide) | exact Mine.Internal.cgtC (by decide) | exact Mine.Internal.cgeC (by decide) | exact Mine.Internal.leE ‹_› ‹_› (by decide) | exact Mine.Internal.ltE ‹_› ‹_› (by decide) | exact Mine.Internal.cltE ‹_› ‹_› (by decide) | exact Mine.Internal.cltF ‹_› ‹_› (by decide) | exact Mine.Internal.cleF ‹_› ‹_› (by decide) | exact Mine.Internal.leF ‹_› ‹_› (by decide) | fail "om: none"))
  trivial
open PySem PySem.W PyProof.Rows
namespace Mine.Internal
set_option Elab.async false
theorem near_spec (w : World) (news : List (Addr × Obj)) (x : UInt64) (d : Int) (t1 t2 : Tok) :
    Ctr w 4 40 164 news [.float x t1, .int d t2] (d.natAbs < 2 ^ 40) (RetV news fun _ => .bool (nearB x d)) := by
  dsimp only [Ctr, P0, LS, RetV]
  k_fill
  intro mean mg mb dp un gd cn cs a ccd cl outer A₀ base h₀ L m s Q E B F X N T hk hpre hdp hun hret
  refine wpAny_call ?_
  k_dflt cell_enter
  k_steps
  exact hret 0 _ _ (by assumption) (by assumption)
end Mine.Internal
end
noncomputable section -- Karm
theorem Mine.Internal.wTopOff12 : True := by w_top off; trivial
local macro_rules
  | `(tactic| walk_at $s:str) => match [("eval BinOp", "#bin"), ("spliced", "#args"), ("isTrue Compare", "#cmp"), ("exec Assign", "#asg"), ("exec Return some", "#ret"), ("storeName", "#sto"), ("#step", "#st3"), ("#on", "#skip"), ("isTrue BoolOp", "#o1Karm")].lookup s.getString with
    | some r => `(tactic| walk_at $(Lean.Syntax.mkStrLit r))
    | none => Lean.Macro.throwUnsupported
theorem Mine.Internal.kwS_Karm : True := by
  k_with "#d" => (repeat' (first | (with_reducible refine Prod.mk ?_ ?_) | exact default | exact Mine.Internal.dW | exact {} | exact Mine.Internal.dX | exact ⟨[], 0, 0, 0⟩))
  trivial
open PySem PySem.W PyProof.Rows
-- SK 32
namespace Mine.Internal
set_option Elab.async false
noncomputable def armX (x : UInt64) : Int := Flt.toInt Float64.truncOf (Float64.add (Float64.mul x (Float64.ofInt 1048576)) 4602678819172646912)
noncomputable def armI (r g b : Int) : Int := if r > g ∧ g ≥ b then 0 else if g ≥ r ∧ r > b then 1 else if g > b ∧ b ≥ r then 2 else if b ≥ g ∧ g > r then 3 else if b > r ∧ r ≥ g then 4 else if r ≥ b ∧ b > g then 5 else 6
noncomputable abbrev armFin (x : UInt64) : Prop := Float64.isFinite (Float64.add (Float64.mul x (Float64.ofInt 1048576)) 4602678819172646912) = true
theorem armI_eq (r g b : Int) : armI r g b = if (decide (r > g) && decide (g ≥ b)) = true then 0 else if (decide (g ≥ r) && decide (r > b)) = true then 1 else if (decide (g > b) && decide (b ≥ r)) = true then 2 else if (decide (b ≥ g) && decide (g > r)) = true then 3 else if (decide (b > r) && decide (r ≥ g)) = true then 4 else if (decide (r ≥ b) && decide (b > g)) = true then 5 else 6 := by
  simp only [armI, Bool.and_eq_true, decide_eq_true_eq]
theorem ifN {c : Bool} {a e z : Int} (h : c = false) (k : e = z) : (if c = true then a else e) = z := by subst h; exact k
theorem ifP {c : Bool} {a e : Int} (h : c = true) : (if c = true then a else e) = a := by subst h; rfl
section
variable {prog : Program} {w : World} {A : Around} {E : Value → Shared → Prop} {h₀ : Heap} {L a : Addr} {m : Str → Option Value} {cn : Str} {cs : Scope} {ccd : Value} {cl : List (Str × Addr)}
theorem and_ok {h : Heap} {g : Array GenState} {d : Drawn} {o : OsState} {k : Nat} {l r l2 r2 : Expr} {op op2 : CmpOp} {p1 p2 pos : Pos} {whole : Sem Value} {c c2 : List (Int × Int)} {b b2 : Bool} {Q : Bool → Shared → Prop} (F : Fr h₀ L h m) (he : pevC cs m l op r k = some (c, b, k)) (he2 : pevC cs m l2 op2 r2 k = some (c2, b2, k)) (hc : AllMul c) (hc2 : AllMul c2) (hk : cs.kind = .function) (hm : behindInMarks op r = false) (hm2 : behindInMarks op2 r2 = false) (hQ : Q (b && b2) ⟨h, g, d, k, o⟩) :
    wpAny (model prog w) A (isTrue (.BoolOp .And [.Compare l [op] [r] p1, .Compare l2 [op2] [r2] p2] pos) (envX cn cs L a ccd cl) whole) Q E ⟨h, g, d, k, o⟩ := by
  refine PyProof.Rows.isTrue_and (cmp_ok F he hc hk hm ?_)
  cases b with
  | false => exact hQ
  | true =>
    refine PyProof.Rows.isTrue_and (cmp_ok F he2 hc2 hk hm2 ?_)
    cases b2 with
    | false => exact hQ
    | true => exact PyProof.Rows.isTrue_and_nil hQ
end
theorem Mine.Internal.kw1_Karm : True := by
  k_with "#o1Karm" => (k_here; k_dflt (refine' Mine.Internal.and_ok ?F ?e ?e2 ?c ?c2 ?k ?n ?n2 ?_; (case F => k_asm); (case e => exact rfl); (case e2 => exact rfl); (case c => exact trivial); (case c2 => exact trivial); (case k => rfl); (case n => rfl); (case n2 => rfl); k_whole))
  trivial
theorem fin_nan {x : UInt64} (h : Float64.isFinite x = true) : Float64.isNaN x = false := by
  cases h9 : Float64.isNaN x with
  | false => rfl
  | true => exfalso; unfold Float64.isFinite at h; unfold Float64.isNaN at h9; split at h9 <;> simp_all
theorem fin_inf {x : UInt64} (h : Float64.isFinite x = true) : Float64.isInf x = false := by
  cases h9 : Float64.isInf x with
  | false => rfl
  | true => exfalso; unfold Float64.isFinite at h; unfold Float64.isInf at h9; split at h9 <;> simp_all
theorem arm_spec (w : World) (d : Addr) (r g b : UInt64) (t1 t2 t3 : Tok) (n : Nat) :
    CtrK w 8 80 176 [.ref d] (fun h => h.get? d = some (W.listOf #[.float r t1, .float g t2, .float b t3] n) ∧ armFin r ∧ armFin g ∧ armFin b)
      (RetKV fun t => .int (armI (armX r) (armX g) (armX b)) t) := by
  dsimp only [CtrK, P0, LS, RetKV]
  k_fill
  intro mean mg mb dp un gd cn cs a ccd cl outer A₀ base h₀ L m s Q E B F X T hk hpre hdp hun hret
  obtain ⟨hpre, hf1, hf2, hf3⟩ := hpre
  have hn1 := fin_nan hf1
  have hn2 := fin_nan hf2
  have hn3 := fin_nan hf3
  have hi1 := fin_inf hf1
  have hi2 := fin_inf hf2
  have hi3 := fin_inf hf3
  have hL : s.heap.IsList d #[.float r t1, .float g t2, .float b t3] := ⟨_, hpre, rfl, n, rfl⟩
  refine wpAny_call ?_
  k_dflt (refine' enterP ?k1 ?k2 ?k3 ?k5 ?kA ?kF ?kK ?k6 ?k7 ?k8 ?k9 ?kB ?_ ?c2 ?c3 ?c4 ?c5; walk_at "#c1"; k_whole; intro L' h' F' N' B' X' T'; (try dsimp only); (try k_lift B'); (try k_fold))
  (first | (refine Mine.Internal.letF F' ?_; clear F'; intro mz32 F') | skip); (first | (refine Mine.Internal.letAE ?_; intro envz32) | skip); (first | (refine Mine.Internal.genT ?_; intro tkz32) | skip)
  revert B F X T hk hdp hun hret hpre hf1 hf2 hf3 hn1 hn2 hn3 hi1 hi2 hi3 hL N' B' X' T' qk ek mz32 F' envz32; revert w d r g b t1 t2 t3 n mean mg mb dp un gd cn cs a ccd cl outer A₀ base h₀ L m s Q E L' h' tkz32; refine (sk32 (P := ?Pza) ?dza ((?fza : ∀ a b c d e f g h i j k l m n o p q r s t u v w x y z A B C D E F, ?Pza a b c d e f g h i j k l m n o p q r s t u v w x y z A B C D E F) _ _ _ _ _ _ _ _ _ _ _ _ _ _ _ _ _ _ _ _ _ _ _ _ _ _ _ _ _ _ _ _) : _); (case dza => walk_at "#d"); intro w d r g b t1 t2 t3 n mean mg mb dp un gd cn cs a ccd cl outer A₀ base h₀ L m s Q E L' h' tkz32 B F X T hk hdp hun hret hpre hf1 hf2 hf3 hn1 hn2 hn3 hi1 hi2 hi3 hL N' B' X' T' qk ek mz32 F' envz32
  k_steps
  all_goals (try dsimp only)
  all_goals (
    have hf : ∀ (k : Int) (t : Tok) (h' : Heap) (tk' : Nat), k = armI (armX r) (armX g) (armX b) → Keep s.heap h' → Q (.int k t) { s with heap := h', toks := tk' } := by
      intro k t h' tk' e kp; subst e; exact hret t h' tk' kp
    (with_reducible rename Fr _ _ _ _ => kF)
    refine hf _ _ _ _ ?_ kF.keep
    clear hf hret
    refine Eq.trans ?_ (armI_eq _ _ _).symm
    first | exact (ifP (by assumption)).symm | exact (ifN (by assumption) (ifP (by assumption))).symm | exact (ifN (by assumption) (ifN (by assumption) (ifP (by assumption)))).symm | exact (ifN (by assumption) (ifN (by assumption) (ifN (by assumption) (ifP (by assumption))))).symm | exact (ifN (by assumption) (ifN (by assumption) (ifN (by assumption) (ifN (by assumption) (ifP (by assumption)))))).symm | exact (ifN (by assumption) (ifN (by assumption) (ifN (by assumption) (ifN (by assumption) (ifN (by assumption) (ifP (by assumption))))))).symm | exact (ifN (by assumption) (ifN (by assumption) (ifN (by assumption) (ifN (by assumption) (ifN (by assumption) (ifN (by assumption) rfl)))))).symm)
end Mine.Internal
end
noncomputable section -- Kread
theorem Mine.Internal.wTopOff13 : True := by w_top off; trivial
local macro_rules | `(tactic| walk_at "no such line") => `(tactic| fail)
local macro_rules
  | `(tactic| walk_at $s:str) => match [("eval BinOp", "#bin"), ("spliced", "#args"), ("isTrue Compare", "#cmp"), ("exec Assign", "#asg"), ("exec Return some", "#ret"), ("storeName", "#sto"), ("#step", "#st0"), ("#on", "#skip"), ("#om", "#omKread"), ("call ref", "#m0Kread")].lookup s.getString with
    | some r => `(tactic| walk_at $(Lean.Syntax.mkStrLit r))
    | none => Lean.Macro.throwUnsupported
theorem Mine.Internal.kwM_Kread : True := by
  k_with "#m0Kread" => (first | walk_at "#o2Kread" | walk_at "#o1Kread")
  trivial
theorem Mine.Internal.kwN_Kread : True := by
  k_with "#omKread" => (first | decide | (with_reducible first | assumption | walk_at "#nz" | exact Nat.succ_le_of_lt ‹_› | exact Mine.Internal.u0 ‹_› | exact Mine.Internal.u1 ‹_› (by decide) | exact Mine.Internal.u2 ‹_› (by decide) | exact Mine.Internal.u3 ‹_› (by decide) | exact Mine.Internal.leC ‹_› (by decide) | exact Mine.Internal.ltC ‹_› (by decide) | exact Mine.Internal.ltD ‹_› (by decide) | exact Mine.Internal.leD ‹_› (by decide) | exact Mine.Internal.iltC ‹_› (by decide) | exact Mine.Internal.ileC ‹_› (by decide) | exact Mine.Internal.iltD ‹_› (by decide) | exact Mine.Internal.ileD ‹_› (by decide) | exact Mine.Internal.igtC ‹_› (by decide) | exact Mine.Internal.igeC ‹_› (by decide) | exact Mine.Internal.igtP ‹_› (by decide) | exact Mine.Internal.igeP ‹_› (by decide) | exact Mine.Internal.cltC ‹_› (by decide) | exact Mine.Internal.cleC ‹_› (by decide) | exact Mine.Internal.cgtC (by decide) | exact Mine.Internal.cgeC (by decide) | exact Mine.Internal.leE ‹_› ‹_› (by decide) | exact Mine.Internal.ltE ‹_› ‹_› (by decide) | exact Mine.Internal.cltE ‹_› ‹_› (by decide) | exact Mine.Internal.cltF ‹_› ‹_› (by decide) | exact Mine.Internal.cleF ‹_› ‹_› (by decide) | exact Mine.Internal.leF ‹_› ‹_› (by decide) | fail "om: none"))
  trivial
open PySem PySem.W PyProof.Rows
namespace Mine.Internal
set_option Elab.async false
noncomputable abbrev rdH (r g b : UInt64) : UInt64 := rgbH (max3F r g b) (min3F r g b) r g b
noncomputable abbrev rdL (r g b : UInt64) : UInt64 := rgbL (max3F r g b) (min3F r g b)
noncomputable abbrev rdS (r g b : UInt64) : UInt64 := rgbS (max3F r g b) (min3F r g b)
structure ReadOk (r g b : UInt64) (p t sh li : Int) : Prop where
  rgb : (eqF (min3F r g b) (max3F r g b) = false ∧ Float64.isZero (Float64.sub (max3F r g b) (min3F r g b)) = false ∧ Float64.isZero (Float64.add (max3F r g b) (min3F r g b)) = false ∧ Float64.isZero (Float64.sub (Float64.sub 4611686018427387904 (max3F r g b)) (min3F r g b)) = false)
  p0 : -128 ≤ p ∧ p < 128 ∧ 0 < t ∧ t < 128
  s0 : 0 < sh ∧ sh < 9 ∧ 0 < li ∧ li < 9
  nearL : nearB (Float64.mul (rdL r g b) (Float64.ofInt 8)) li = true
  nearS : nearB (Float64.mul (rdS r g b) (Float64.ofInt 8)) sh = true
  fin : Float64.isFinite (Float64.add (Float64.mul (rdH r g b) (Float64.ofInt t)) 4602678819172646912) = true
  int : (Flt.toInt Float64.truncOf (Float64.add (Float64.mul (rdH r g b) (Float64.ofInt t)) 4602678819172646912)).fmod t = p % t
  near : nearB (Float64.mul (rdH r g b) (Float64.ofInt t)) (p % t) = true ∨ nearB (Float64.mul (rdH r g b) (Float64.ofInt t)) (p % t + t) = true
theorem Mine.Internal.kw1_Kread : True := by
  k_with "#o1Kread" => (k_here; (with_reducible show wpAny _ _ (call (Value.ref 28) _) _ _ _); k_dflt (refine' rgb_spec _ _ _ _ _ _ _ _ _ _ _ _ _ _ _ _ _ _ _ _ _ _ _ _ _ _ _ _ ?k1 ?k2 ?k3 ?k4 ?k5 ?k6 ?k7 ?k8 ?k9 ?_; walk_at "#c3"; k_whole); intro d' ta' tb' tc' h' tk' F' N'; (try dsimp only); (try k_fold))
  k_with "#o2Kread" => (k_here; (with_reducible show wpAny _ _ (call (Value.ref 164) _) _ _ _); k_dflt (refine' near_spec _ _ _ _ _ _ _ _ _ _ _ _ _ _ _ _ _ _ _ _ _ _ _ _ _ _ ?k1 ?k2 ?k3 ?k4 ?k5 ?k6 ?k7 ?k8 ?k9 ?_; walk_at "#c3"; k_whole); intro t' h' tk' F' N'; (try dsimp only); (try k_fold))
  trivial
noncomputable def read_U_k : Σ' (P1 : World → Obj → Obj → Addr → Nat → UInt64 → UInt64 → UInt64 → Int → Int → Int → Int → Tok → Tok → Tok → Tok → Tok → Tok → Tok → (ExcName → Option Value) → (Str → Option Value) → (Str → Option Value) → Nat → Nat → (Option (List Code)) → Str → Scope → Addr → Value → (List (Str × Addr)) → (List Env) → Around → Heap → Heap → Addr → (Str → Option Value) → Shared → (Value → Shared → Prop) → (Value → Shared → Prop) → Heap → Addr → Heap → Prop), (∀ w o1 o2 dl n r g b p t sh li t1 t2 t3 u1 u2 u3 u4 mean mg mb dp un gd cn cs a ccd cl outer A₀ base h₀ L m s Q E g' L' h', P1 w o1 o2 dl n r g b p t sh li t1 t2 t3 u1 u2 u3 u4 mean mg mb dp un gd cn cs a ccd cl outer A₀ base h₀ L m s Q E g' L' h') → ∀ (w : World) (o1 o2 : Obj) (dl : Addr) (n : Nat) (r g b : UInt64) (p t sh li : Int) (t1 t2 t3 u1 u2 u3 u4 : Tok), CtrT w 40 400 214 [(65, o1), (72, o2)] [.ref dl, .int p u1, .int t u2, .int sh u3, .int li u4] (fun h => TQ h o1 o2 ∧ h.get? dl = some (W.listOf #[.float r t1, .float g t2, .float b t3] n) ∧ ReadOk r g b p t sh li)
      (fun _ s Q => ∀ (tt : Tok) (hz : Heap) (tz : Nat), TP s.heap hz o1 o2 → Q (.int (p % t) tt) { s with heap := hz, toks := tz }) := ⟨_, by
  intro hP_1 w o1 o2 dl n r g b p t sh li t1 t2 t3 u1 u2 u3 u4
  dsimp only [CtrT, P0, LS]
  k_fill
  intro mean mg mb dp un gd cn cs a ccd cl outer A₀ base h₀ L m s Q E B F X N T hk C1 C2 hpre hdp hun hret
  obtain ⟨hQ, hL0, ⟨hR, hp0, hs0, hnL, hnS, hfin, hint, hnear⟩⟩ := hpre
  have hn1 := fin_nan hfin
  have hi1 := fin_inf hfin
  have b1 := (N _ (.head _)).1
  have b2 := (N _ (.tail _ (.head _))).1
  have hQ0 := hQ.hide b1 b2
  have hdl : dl ∉ ([65, 72] : List Addr) := notIn2 (by rintro rfl; rw [b1] at hL0; cases hL0; rcases hQ.i1 with e | ⟨_, _, e, -⟩ <;> cases e) (by rintro rfl; rw [b2] at hL0; cases hL0; rcases hQ.i2 with e | ⟨_, _, e, -⟩ <;> cases e)
  have hL1 : (hideAll s.heap [65, 72]).IsList dl #[.float r t1, .float g t2, .float b t3] := ⟨_, hideAll_get _ hL0 hdl, rfl, n, rfl⟩
  refine wpAny_call ?_
  k_dflt (refine' enterT ?k1 ?k2 ?k3 ?k4 ?k5 ?kA ?kF ?kK ?k6 ?k7 ?k8 ?k9 ?kB ?kC1 ?kC2 ?_ ?c2 ?c3 ?c4 ?c5; walk_at "#c0"; k_whole)
  have hg0 : hideAll s.heap (List.map (·.1) [((65 : Addr), o1), (72, o2)]) = hideAll s.heap [65, 72] := rfl
  rw [hg0]
  generalize hg : hideAll s.heap [65, 72] = g' at *
  clear C1 C2 N F B X T hg0 hQ
  intro L' h' F' N' B' X' T' C1 C2 l1
  (try k_lt l1)
  (try dsimp only)
  (try k_lift B')
  (try k_fold)
  revert hk hdp hun hret hL0 hR hp0 hs0 hnL hnS hfin hint hnear hn1 hi1 b1 b2 hdl hg hQ0 hL1 F' N' B' X' T' C1 C2 l1
  exact hP_1 w o1 o2 dl n r g b p t sh li t1 t2 t3 u1 u2 u3 u4 mean mg mb dp un gd cn cs a ccd cl outer A₀ base h₀ L m s Q E g' L' h'⟩
noncomputable def read_U_R (z : Sk) : Prop := read_U_k.1 (z.w 0) (z.o 0) (z.o 1) (z.a 0) (z.n 0) (z.u 0) (z.u 1) (z.u 2) (z.i 0) (z.i 1) (z.i 2) (z.i 3) (z.t 0) (z.t 1) (z.t 2) (z.t 3) (z.t 4) (z.t 5) (z.t 6) (z.em 0) (z.m 0) (z.m 1) (z.n 1) (z.n 2) (z.oc 0) (z.x 0) (z.sc 0) (z.a 1) (z.v 0) (z.sa 0) (z.le 0) (z.ar 0) (z.h 0) (z.h 1) (z.a 2) (z.m 2) (z.s 0) (z.q 0) (z.q 1) (z.h 2) (z.a 3) (z.h 3)
namespace read_U_c
def w := (skv read_U_R).w 0
def o1 := (skv read_U_R).o 0
def o2 := (skv read_U_R).o 1
def r := (skv read_U_R).u 0
def g := (skv read_U_R).u 1
def b := (skv read_U_R).u 2
def p := (skv read_U_R).i 0
def t := (skv read_U_R).i 1
def sh := (skv read_U_R).i 2
def li := (skv read_U_R).i 3
def g' := (skv read_U_R).h 2
def L' := (skv read_U_R).a 3
theorem r1 : read_U_k.1 w o1 o2 ((skv read_U_R).a 0) ((skv read_U_R).n 0) r g b p t sh li ((skv read_U_R).t 0) ((skv read_U_R).t 1) ((skv read_U_R).t 2) ((skv read_U_R).t 3) ((skv read_U_R).t 4) ((skv read_U_R).t 5) ((skv read_U_R).t 6) ((skv read_U_R).em 0) ((skv read_U_R).m 0) ((skv read_U_R).m 1) ((skv read_U_R).n 1) ((skv read_U_R).n 2) ((skv read_U_R).oc 0) ((skv read_U_R).x 0) ((skv read_U_R).sc 0) ((skv read_U_R).a 1) ((skv read_U_R).v 0) ((skv read_U_R).sa 0) ((skv read_U_R).le 0) ((skv read_U_R).ar 0) ((skv read_U_R).h 0) ((skv read_U_R).h 1) ((skv read_U_R).a 2) ((skv read_U_R).m 2) ((skv read_U_R).s 0) ((skv read_U_R).q 0) ((skv read_U_R).q 1) g' L' ((skv read_U_R).h 3) := by
  intro hk hdp hun hret hL0 hR hp0 hs0 hnL hnS hfin hint hnear hn1 hi1 b1 b2 hdl hg hQ0 hL1 F' N' B' X' T' C1 C2 l1
  w_on
  k_steps
  (with_reducible rename Fr _ _ _ _ => zF)
  (with_reducible rename News _ _ _ _ => zN)
  have zn : News g' L' _ [(65, o1), (72, o2)] := cb_drop zN (by kcj_all)
  have kp := keep_two hg zF.keep b1 b2 (zn _ (.head _)).1 (zn _ (.tail _ (.head _))).1
  k_here
  k_dflt (refine' im_U w o1 o2 p t _ _ _ _ _ _ _ _ _ _ _ _ _ _ _ _ _ _ _ _ _ _ ?k1 ?k2 ?k3 ?k4 ?k5 ?k6 ?kC1 ?kC2 ?k8 ?k9 ?k10 ?_; (case k1 => k_asm); (case k2 => k_asm); (case k3 => k_asm); (case k4 => exact zn); (case k5 => k_asm); (case k6 => exact rfl); (case kC1 => assumption); (case kC2 => assumption); (case k8 => exact ⟨hQ0.mono zF.keep, hp0⟩); (case k9 => ktr_room); (case k10 => ktr_units); k_whole)
  intro q rr d ta tb hz tz hqr t0 dn dg
  obtain ⟨rfl, rfl⟩ := hqr
  obtain ⟨u5, u6, c1, oc1, c2, oc2, F8, N8, hTP⟩ := TP.led zF zn hQ0 t0 dn dg
  clear zF zN zn
  have hr0 := Int.emod_nonneg p (Int.ne_of_gt hp0.2.2.1)
  have hr1 := Int.emod_lt_of_pos p hp0.2.2.1
  have hsum : p / t * t + p % t = p := by have := Int.mul_ediv_add_emod p t; rw [Int.mul_comm]; exact this
  generalize hrr : p % t = rs at *
  have hA1 : li.natAbs < 2 ^ 40 := by omega
  have hA2 : sh.natAbs < 2 ^ 40 := by omega
  have hA3 : rs.natAbs < 2 ^ 40 := by omega
  have hA4 : (rs + t).natAbs < 2 ^ 40 := by omega
  (try dsimp only)
  k_steps
  · exact absurd hsum (by assumption)
  · exact absurd hint (by assumption)
  · (with_reducible rename Fr _ _ _ _ => zF)
    (with_reducible rename News _ _ _ _ => zN)
    exact hret _ _ _ (hTP _ _ kp zF.keep (keepBut_hide hg zF.keep) fun p hp => zN _ (.tail _ hp))
  · (with_reducible rename Fr _ _ _ _ => zF)
    (with_reducible rename News _ _ _ _ => zN)
    exact hret _ _ _ (hTP _ _ kp zF.keep (keepBut_hide hg zF.keep) fun p hp => zN _ (.tail _ hp))
  · rcases hnear with h | h
    · have e : nearB (Float64.mul (rdH r g b) (Float64.ofInt t)) rs = false := by assumption
      rw [e] at h; cases h
    · have e : nearB (Float64.mul (rdH r g b) (Float64.ofInt t)) (rs + t) = false := by assumption
      rw [e] at h; cases h
end read_U_c
theorem read_U (w : World) (o1 o2 : Obj) (dl : Addr) (n : Nat) (r g b : UInt64) (p t sh li : Int) (t1 t2 t3 u1 u2 u3 u4 : Tok) : CtrT w 40 400 214 [(65, o1), (72, o2)] [.ref dl, .int p u1, .int t u2, .int sh u3, .int li u4] (fun h => TQ h o1 o2 ∧ h.get? dl = some (W.listOf #[.float r t1, .float g t2, .float b t3] n) ∧ ReadOk r g b p t sh li)
      (fun _ s Q => ∀ (tt : Tok) (hz : Heap) (tz : Nat), TP s.heap hz o1 o2 → Q (.int (p % t) tt) { s with heap := hz, toks := tz }) :=
  read_U_k.2 (fun w o1 o2 dl n r g b p t sh li t1 t2 t3 u1 u2 u3 u4 mean mg mb dp un gd cn cs a ccd cl outer A₀ base h₀ L m s Q E g' L' h' => skva read_U_R read_U_c.r1 (sk_w w <| sk_o o1 <| sk_o o2 <| sk_a dl <| sk_n n <| sk_u r <| sk_u g <| sk_u b <| sk_i p <| sk_i t <| sk_i sh <| sk_i li <| sk_t t1 <| sk_t t2 <| sk_t t3 <| sk_t u1 <| sk_t u2 <| sk_t u3 <| sk_t u4 <| sk_em mean <| sk_m mg <| sk_m mb <| sk_n dp <| sk_n un <| sk_oc gd <| sk_x cn <| sk_sc cs <| sk_a a <| sk_v ccd <| sk_sa cl <| sk_le outer <| sk_ar A₀ <| sk_h base <| sk_h h₀ <| sk_a L <| sk_m m <| sk_s s <| sk_q Q <| sk_q E <| sk_h g' <| sk_a L' <| sk_h h' <| dS)) w o1 o2 dl n r g b p t sh li t1 t2 t3 u1 u2 u3 u4
theorem read_T0 (w : World) (dl : Addr) (n : Nat) (r g b : UInt64) (p t sh li : Int) (t1 t2 t3 u1 u2 u3 u4 : Tok) :
    CtrT w 40 400 214 [(65, tabObj #[]), (72, tabObj #[])] [.ref dl, .int p u1, .int t u2, .int sh u3, .int li u4] (fun h => h.get? dl = some (W.listOf #[.float r t1, .float g t2, .float b t3] n) ∧ ReadOk r g b p t sh li)
      (fun _ s Q => ∀ (tt : Tok) (hz : Heap) (tz : Nat), KeepBut [65, 72] s.heap hz → TF0 s.heap hz → Q (.int (p % t) tt) { s with heap := hz, toks := tz }) := by
  intro mean mg mb dp un gd cn cs a ccd cl outer A₀ base h₀ L m s Q E B F X N T hk C1 C2 hpre hdp hun hret
  exact read_U w _ _ dl n r g b p t sh li t1 t2 t3 u1 u2 u3 u4 mean mg mb dp un gd cn cs a ccd cl outer A₀ base h₀ L m s Q E B F X N T hk C1 C2 ⟨tq0, hpre⟩ hdp hun fun tt hz tz j => hret tt hz tz j.kb j.toTF0
theorem read_T1 (w : World) (c1 : Addr) (oc1 : Obj) (vs1 : Array Value) (tq1 : Tok) (c2 : Addr) (oc2 : Obj) (vs2 : Array Value) (tq2 : Tok) (dl : Addr) (n : Nat) (r g b : UInt64) (p t sh li : Int) (t1 t2 t3 u1 u2 u3 u4 : Tok) :
    CtrT w 40 400 214 [(65, tab65 c1), (72, tab72 c2)] [.ref dl, .int p u1, .int t u2, .int sh u3, .int li u4] (fun h => TFa h c1 oc1 vs1 tq1 c2 oc2 vs2 tq2 ∧ h.get? dl = some (W.listOf #[.float r t1, .float g t2, .float b t3] n) ∧ ReadOk r g b p t sh li)
      (fun _ s Q => ∀ (tt : Tok) (hz : Heap) (tz : Nat), Keep s.heap hz → Q (.int (p % t) tt) { s with heap := hz, toks := tz }) := by
  intro mean mg mb dp un gd cn cs a ccd cl outer A₀ base h₀ L m s Q E B F X N T hk C1 C2 hpre hdp hun hret
  exact read_U w _ _ dl n r g b p t sh li t1 t2 t3 u1 u2 u3 u4 mean mg mb dp un gd cn cs a ccd cl outer A₀ base h₀ L m s Q E B F X N T hk C1 C2 ⟨hpre.1.tq, hpre.2⟩ hdp hun fun tt hz tz j => hret tt hz tz (j.toKeep hpre.1.g1 hpre.1.g2)
end Mine.Internal
end
noncomputable section -- Kmin2
theorem Mine.Internal.wTopOff14 : True := by w_top off; trivial
local macro_rules
  | `(tactic| walk_at $s:str) => match [("#om", "#lia")].lookup s.getString with
    | some r => `(tactic| walk_at $(Lean.Syntax.mkStrLit r))
    | none => Lean.Macro.throwUnsupported
open PySem PySem.W PyProof.Rows
namespace Mine.Internal
noncomputable def MinIs (v a b : Int) : Prop := v = min a b
noncomputable def MaxIs (v a b : Int) : Prop := v = max a b
section
variable {prog : Program} {w : World} {A : Around} {E : Value → Shared → Prop} {s : Shared} {h₀ : Heap} {L : Addr} {m : Str → Option Value} {news : List (Addr × Obj)}
theorem min2_I {a b : Int} {t u : Tok} {Q : Value → Shared → Prop} (hh : A.handled = none) (F : Fr h₀ L s.heap m) (N : News h₀ L s.heap news)
    (h : ∀ h' tk v tok, MinIs v a b → Fr h₀ L h' m → News h₀ L h' news → Q (.int v tok) { s with heap := h', toks := tk }) :
    wpAny (model prog w) A (call (.builtin "min") [.int a t, .int b u]) Q E s :=
  min_two_N hh F N fun h' tk F' N' => h h' tk _ _ (by unfold MinIs; rw [Int.min_def]; split <;> split <;> omega) F' N'
theorem max2_I {a b : Int} {t u : Tok} {Q : Value → Shared → Prop} (hh : A.handled = none) (F : Fr h₀ L s.heap m) (N : News h₀ L s.heap news)
    (h : ∀ h' tk v tok, MaxIs v a b → Fr h₀ L h' m → News h₀ L h' news → Q (.int v tok) { s with heap := h', toks := tk }) :
    wpAny (model prog w) A (call (.builtin "max") [.int a t, .int b u]) Q E s :=
  max_two_N hh F N fun h' tk F' N' => h h' tk _ _ (by unfold MaxIs; rw [Int.max_def]; split <;> split <;> omega) F' N'
end
theorem min2_T {prog : Program} {w : World} {A : Around} {E : Value → Shared → Prop} {s : Shared} {h₀ : Heap} {L : Addr} {m : Str → Option Value} {news : List (Addr × Obj)} {a b : Int} {t u : Tok} {Q : Value → Shared → Prop} (hh : A.handled = none) (F : Fr h₀ L s.heap m) (N : News h₀ L s.heap news)
    (h : ∀ h' tk tok, Fr h₀ L h' m → News h₀ L h' news → Q (.int (min a b) tok) { s with heap := h', toks := tk }) :
    wpAny (model prog w) A (call (.builtin "min") [.int a t, .int b u]) Q E s :=
  min2_I hh F N fun h' tk v tok e F' N' => by unfold MinIs at e; subst e; exact h h' tk tok F' N'
noncomputable def fallI (p t c : Int) : Int := min (max (min ((6 * p - c * t).fmod (6 * t)) (6 * t - (6 * p - c * t).fmod (6 * t)) - t) 0) t
theorem fall_chain {p t c v x y : Int} (h1 : MinIs v x t) (h2 : MaxIs x (y - t) 0) (h3 : MinIs y ((6 * p - c * t).fmod (6 * t)) (6 * t - (6 * p - c * t).fmod (6 * t))) : v = fallI p t c := by
  unfold MinIs at h1 h3; unfold MaxIs at h2; subst h1 h2 h3; rfl
noncomputable abbrev RetL3I (x y z : Int) : Shared → (Value → Shared → Prop) → Prop :=
  fun s Q => ∀ (d : Addr) (t1 t2 t3 : Tok) (n : Nat) (h' : Heap) (tk' : Nat), Keep s.heap h' → s.heap.get? d = none → h'.get? d = some (W.listOf #[.int x t1, .int y t2, .int z t3] n) → Q (.ref d) { s with heap := h', toks := tk' }
end Mine.Internal
end
noncomputable section -- Kfalls
theorem Mine.Internal.wTopOff15 : True := by w_top off; trivial
local macro_rules | `(tactic| walk_at "no such line") => `(tactic| fail)
local macro_rules
  | `(tactic| walk_at $s:str) => match [("eval BinOp", "#bin"), ("spliced", "#args"), ("isTrue Compare", "#cmp"), ("exec Assign", "#asg"), ("exec Return some", "#ret"), ("storeName", "#sto"), ("#step", "#st4"), ("#on", "#skip"), ("#om", "#omLKfalls"), ("call builtin:min", "#o1Kfalls"), ("call builtin:max", "#o2Kfalls"), ("call builtin:list.append", "#o3Kfalls")].lookup s.getString with
    | some r => `(tactic| walk_at $(Lean.Syntax.mkStrLit r))
    | none => Lean.Macro.throwUnsupported
theorem Mine.Internal.kwM_Kfalls : True := by
  k_with "#omLKfalls" => (first | walk_at "#omKfalls" | lia)
  trivial
theorem Mine.Internal.kwN_Kfalls : True := by
  k_with "#omKfalls" => (first | decide | (with_reducible first | assumption | walk_at "#nz" | exact Nat.succ_le_of_lt ‹_› | exact Mine.Internal.u0 ‹_› | exact Mine.Internal.u1 ‹_› (by decide) | exact Mine.Internal.u2 ‹_› (by decide) | exact Mine.Internal.u3 ‹_› (by decide) | exact Mine.Internal.leC ‹_› (by decide) | exact Mine.Internal.ltC ‹_› (by decide) | exact Mine.Internal.ltD ‹_› (by decide) | exact Mine.Internal.leD ‹_› (by decide) | exact Mine.Internal.iltC ‹_› (by decide) | exact Mine.Internal.ileC ‹_› (by decide) | exact Mine.Internal.iltD ‹_› (by decide) | exact Mine.Internal.ileD ‹_› (by decide) | exact Mine.Internal.igtC ‹_› (by decide) | exact Mine.Internal.igeC ‹_› (by decide) | exact Mine.Internal.igtP ‹_› (by decide) | exact Mine.Internal.igeP ‹_› (by decide) | exact Mine.Internal.cltC ‹_› (by decide) | exact Mine.Internal.cleC ‹_› (by decide) | exact Mine.Internal.cgtC (by decide) | exact Mine.Internal.cgeC (by decide) | exact Mine.Internal.leE ‹_› ‹_› (by decide) | exact Mine.Internal.ltE ‹_› ‹_› (by decide) | exact Mine.Internal.cltE ‹_› ‹_› (by decide) | exact Mine.Internal.cltF ‹_› ‹_› (by decide) | exact Mine.Internal.cleF ‹_› ‹_› (by decide) | exact Mine.Internal.leF ‹_› ‹_› (by decide) | fail "om: none"))
  trivial
open PySem PySem.W PyProof.Rows
namespace Mine.Internal
set_option Elab.async false
theorem Mine.Internal.kw1_Kfalls : True := by
  k_with "#o1Kfalls" => (k_here; (with_reducible show wpAny _ _ (call (Value.builtin _) [Value.int _ _, Value.int _ _]) _ _ _); k_dflt (refine' min2_I ?k1 ?k2 ?k3 ?_; (case k1 => rfl); (case k2 => k_asm); (case k3 => k_asm); k_whole); intro h' tk' v' t' M' F' N'; (try dsimp only))
  k_with "#o2Kfalls" => (k_here; (with_reducible show wpAny _ _ (call (Value.builtin _) [Value.int _ _, Value.int _ _]) _ _ _); k_dflt (refine' max2_I ?k1 ?k2 ?k3 ?_; (case k1 => rfl); (case k2 => k_asm); (case k3 => k_asm); k_whole); intro h' tk' v' t' M' F' N'; (try dsimp only))
  k_with "#o3Kfalls" => (k_here; (simp only [List.cons_append, List.nil_append]); (with_reducible show wpAny _ _ (call (Value.builtin _) [Value.ref _, _]) _ _ _); k_dflt (refine' append_K ?k1 ?k2 ?k3 ?_ ?z; (case k1 => k_asm); (case k2 => k_asm); (case k3 => k_upd); (case z => size_fits); k_whole); intro h' F' N'; (try k_sweep))
  trivial
noncomputable def falls_spec_k : Σ' (P : World → Int → Int → Tok → Tok → (ExcName → Option Value) → (Str → Option Value) → (Str → Option Value) → Nat → Nat → (Option (List Code)) → Str → Scope → Addr → Value → (List (Str × Addr)) → (List Env) → Around → Heap → Heap → Addr → (Str → Option Value) → Shared → (Value → Shared → Prop) → (Value → Shared → Prop) → Addr → Heap → Prop), (∀ w p t t1 t2 mean mg mb dp un gd cn cs a ccd cl outer A₀ base h₀ L m s Q E L' h', P w p t t1 t2 mean mg mb dp un gd cn cs a ccd cl outer A₀ base h₀ L m s Q E L' h') → ∀ (w : World) (p t : Int) (t1 t2 : Tok), CtrK w 4 40 171 [.int p t1, .int t t2] (fun _ => 0 < t ∧ t < 1000 ∧ p.natAbs < 1000) (RetL3I (fallI p t 0) (fallI p t 2) (fallI p t 4)) := ⟨_, by
  intro hP_ w p t t1 t2
  dsimp only [CtrK, P0, LS, RetL3I]
  k_fill
  intro mean mg mb dp un gd cn cs a ccd cl outer A₀ base h₀ L m s Q E B F X T hk hpre hdp hun hret
  obtain ⟨hp1, hp2, hp3⟩ := hpre
  refine wpAny_call ?_
  k_dflt (refine' enterP ?k1 ?k2 ?k3 ?k5 ?kA ?kF ?kK ?k6 ?k7 ?k8 ?k9 ?kB ?_ ?c2 ?c3 ?c4 ?c5; walk_at "#c1"; k_whole; intro L' h' F' N' B' X' T'; (try dsimp only); (try k_lift B'); (try k_fold))
  revert B F X T hk hdp hun hret hp1 hp2 hp3 F' N' B' X' T'
  exact hP_ w p t t1 t2 mean mg mb dp un gd cn cs a ccd cl outer A₀ base h₀ L m s Q E L' h'⟩
noncomputable def falls_spec_R (z : Sk) : Prop := falls_spec_k.1 (z.w 0) (z.i 0) (z.i 1) (z.t 0) (z.t 1) (z.em 0) (z.m 0) (z.m 1) (z.n 0) (z.n 1) (z.oc 0) (z.x 0) (z.sc 0) (z.a 0) (z.v 0) (z.sa 0) (z.le 0) (z.ar 0) (z.h 0) (z.h 1) (z.a 1) (z.m 2) (z.s 0) (z.q 0) (z.q 1) (z.a 2) (z.h 2)
namespace falls_spec_c
def p := (skv falls_spec_R).i 0
def t := (skv falls_spec_R).i 1
def t1 := (skv falls_spec_R).t 0
def t2 := (skv falls_spec_R).t 1
def s := (skv falls_spec_R).s 0
def Q := (skv falls_spec_R).q 0
def h' := (skv falls_spec_R).h 2
theorem rest : falls_spec_k.1 ((skv falls_spec_R).w 0) p t t1 t2 ((skv falls_spec_R).em 0) ((skv falls_spec_R).m 0) ((skv falls_spec_R).m 1) ((skv falls_spec_R).n 0) ((skv falls_spec_R).n 1) ((skv falls_spec_R).oc 0) ((skv falls_spec_R).x 0) ((skv falls_spec_R).sc 0) ((skv falls_spec_R).a 0) ((skv falls_spec_R).v 0) ((skv falls_spec_R).sa 0) ((skv falls_spec_R).le 0) ((skv falls_spec_R).ar 0) ((skv falls_spec_R).h 0) ((skv falls_spec_R).h 1) ((skv falls_spec_R).a 1) ((skv falls_spec_R).m 2) s Q ((skv falls_spec_R).q 1) ((skv falls_spec_R).a 2) h' := by
  intro B F X T hk hdp hun hret hp1 hp2 hp3 F' N' B' X' T'
  k_steps
  (try dsimp only)
  have hf : ∀ (x y z : Int) (d : Addr) (t1 t2 t3 : Tok) (n : Nat) (h' : Heap) (tk' : Nat), x = fallI p t 0 → y = fallI p t 2 → z = fallI p t 4 → Keep s.heap h' → s.heap.get? d = none → h'.get? d = some (W.listOf #[.int x t1, .int y t2, .int z t3] n) → Q (.ref d) { s with heap := h', toks := tk' } := by
    intro x y z d t1 t2 t3 n h' tk' e1 e2 e3; subst e1 e2 e3; exact hret d t1 t2 t3 n h' tk'
  (with_reducible rename Fr _ _ _ _ => kF)
  (with_reducible rename News _ _ _ _ => kN)
  have h2 := kN _ (List.mem_cons_of_mem _ List.mem_cons_self)
  refine hf _ _ _ _ _ _ _ _ _ _ ?_ ?_ ?_ kF.keep h2.2.2 h2.1
  · exact fall_chain (by assumption) (by assumption) (by assumption)
  · exact fall_chain (by assumption) (by assumption) (by assumption)
  · exact fall_chain (by assumption) (by assumption) (by assumption)
end falls_spec_c
theorem falls_spec (w : World) (p t : Int) (t1 t2 : Tok) : CtrK w 4 40 171 [.int p t1, .int t t2] (fun _ => 0 < t ∧ t < 1000 ∧ p.natAbs < 1000) (RetL3I (fallI p t 0) (fallI p t 2) (fallI p t 4)) :=
  falls_spec_k.2 (fun w p t t1 t2 mean mg mb dp un gd cn cs a ccd cl outer A₀ base h₀ L m s Q E L' h' => skva falls_spec_R falls_spec_c.rest (sk_w w <| sk_i p <| sk_i t <| sk_t t1 <| sk_t t2 <| sk_em mean <| sk_m mg <| sk_m mb <| sk_n dp <| sk_n un <| sk_oc gd <| sk_x cn <| sk_sc cs <| sk_a a <| sk_v ccd <| sk_sa cl <| sk_le outer <| sk_ar A₀ <| sk_h base <| sk_h h₀ <| sk_a L <| sk_m m <| sk_s s <| sk_q Q <| sk_q E <| sk_a L' <| sk_h h' <| dS)) w p t t1 t2
end Mine.Internal
end
noncomputable section -- KfallsC
open PySem PySem.W PyProof.Rows
namespace Mine.Internal
theorem falls_ctr (w : World) (news : List (Addr × Obj)) (p t : Int) (t1 t2 : Tok) :
    Ctr w 4 40 171 news [.int p t1, .int t t2] (0 < t ∧ t < 1000 ∧ p.natAbs < 1000)
      (fun h₀ L m s Q => ∀ (d : Addr) (t1 t2 t3 : Tok) (n : Nat) (h' : Heap) (tk' : Nat), Fr h₀ L h' m → News h₀ L h' ((d, W.listOf #[.int (fallI p t 0) t1, .int (fallI p t 2) t2, .int (fallI p t 4) t3] n) :: news) → Q (.ref d) { s with heap := h', toks := tk' }) := by
  intro mean mg mb dp un gd cn cs a ccd cl outer A₀ base h₀ L m s Q E B F X N T hk hpre hdp hun hret
  exact falls_spec w p t t1 t2 mean mg mb dp un gd cn cs a ccd cl outer A₀ base h₀ L m s Q E B F X T hk hpre hdp hun fun d t1 t2 t3 n h' tk' kp hn ho => hret d t1 t2 t3 n h' tk' (frKeep F kp) (newsKeep1 F N kp hn ho)
end Mine.Internal
end
noncomputable section -- Kzip
theorem Mine.Internal.wTopOff16 : True := by w_top off; trivial
open PySem PySem.W PyProof.Rows
open Sem (wp)
namespace Mine.Internal
/- zip of a tuple and a list, turned from the library's zip of two lists (PyProof/ZipIter.lean) -/
theorem tupIter_at {h h' : Heap} {a t : Addr} {i : Nat} (x : h.IsTupleIter a t i) (k : ∀ o, h.get? a = some o → h'.get? a = some o) : h'.IsTupleIter a t i :=
  let ⟨o, ho, r⟩ := x; ⟨o, k o ho, r⟩
theorem tup_at {h h' : Heap} {a : Addr} {is : Array Value} (x : h.IsTuple a is) (k : ∀ o, h.get? a = some o → h'.get? a = some o) : h'.IsTuple a is :=
  let ⟨o, ho, r⟩ := x; ⟨o, k o ho, r⟩
section
variable {prog : Program} {w : World} {A : Around} {E : Value → Shared → Prop} {s : Shared}
theorem nextOf_tup_item {it l : Addr} {i : Nat} {items} {x : Value} {Q : Value → Shared → Prop} (hit : s.heap.IsTupleIter it l i)
    (hl : s.heap.IsTuple l items) (hx : items[i]? = some x)
    (hQ : ∀ h', h'.IsTupleIter it l (i + 1) → Heap.SameBut it s.heap h' → Q x { s with heap := h' }) :
    wpAny (model prog w) A (Builtin.SmallTypes.nextOf (.ref it)) Q E s := by
  obtain ⟨o, ho, hc, hd⟩ := id hit
  obtain ⟨ol, hol, _, nl, hdl⟩ := hl
  unfold Builtin.SmallTypes.nextOf
  refine wpAny_bind (wpAny_callSpecial?_slot (name := Str.ofString "__next__") hit.typeIs F.slot_tuple_iterator_next
    (wpAny_call_entry F.slot_tuple_iterator_next hit.typeIs F.entry_tuple_iterator_next ?_ (F.args_tuple_iterator_next_1 _)))
  show wpAny _ _ (field (.ref it) 0 >>= _) _ _ s
  refine wpAny_bind (wpAny_field ho hd (x := .ref l) rfl ?_)
  show wpAny _ _ (if (Value.ref l == Value.none) = true then _ else _) _ _ s
  rw [if_neg (show ¬ ((Value.ref l == Value.none) = true) from Bool.false_ne_true)]
  show wpAny _ _ (field (.ref it) 1 >>= _) _ _ s
  refine wpAny_bind (wpAny_field ho hd (x := .int i 0) rfl ?_)
  show wpAny _ _ (seqItems? (.ref l) >>= _) _ _ s
  refine wpAny_bind (wpAny_seqItems hol hdl ?_)
  simp only [Int.toNat_natCast, hx]
  refine wpAny_bind (wpAny_setField ho hd (by simp) (wpAny_pure ⟨x, rfl, wpAny_pure (hQ _ ?_ (Heap.SameBut.update ..))⟩))
  exact ⟨_, Heap.get?_update_self _ ho (Obj.isFreed_of_fields (Obj.data_mapFields hd _)), (Obj.cls_mapFields ..).trans hc, by
    rw [Obj.data_mapFields hd]; simp [rawInt]⟩

theorem nextOf_tup_end {it l : Addr} {i : Nat} {items} {Q : Value → Shared → Prop} (hh : A.handled = none)
    (hit : s.heap.IsTupleIter it l i) (hl : s.heap.IsTuple l items) (hx : items[i]? = none)
    (hE : ∀ h' e, Heap.ExtBut it s.heap h' → (∃ o, h'.get? e = some o ∧ o.cls = .type "StopIteration") → E (.ref e) { s with heap := h' }) :
    wpAny (model prog w) A (Builtin.SmallTypes.nextOf (.ref it)) Q E s := by
  obtain ⟨o, ho, hc, hd⟩ := id hit
  obtain ⟨ol, hol, _, nl, hdl⟩ := hl
  unfold Builtin.SmallTypes.nextOf
  refine wpAny_bind (wpAny_callSpecial?_slot (name := Str.ofString "__next__") hit.typeIs F.slot_tuple_iterator_next
    (wpAny_call_entry F.slot_tuple_iterator_next hit.typeIs F.entry_tuple_iterator_next ?_ (F.args_tuple_iterator_next_1 _)))
  show wpAny _ _ (field (.ref it) 0 >>= _) _ _ s
  refine wpAny_bind (wpAny_field ho hd (x := .ref l) rfl ?_)
  show wpAny _ _ (if (Value.ref l == Value.none) = true then _ else _) _ _ s
  rw [if_neg (show ¬ ((Value.ref l == Value.none) = true) from Bool.false_ne_true)]
  show wpAny _ _ (field (.ref it) 1 >>= _) _ _ s
  refine wpAny_bind (wpAny_field ho hd (x := .int i 0) rfl ?_)
  show wpAny _ _ (seqItems? (.ref l) >>= _) _ _ s
  refine wpAny_bind (wpAny_seqItems hol hdl ?_)
  simp only [Int.toNat_natCast, hx]
  refine wpAny_bind (wpAny_rule (wpAny_bind (wpAny_setField ho hd (by simp) ?_)))
  show wpAny _ _ (newExc (.type "StopIteration") [] >>= _) _ _ _
  refine wpAny_bind ?_
  simp only [newExc, newTuple]
  refine wpAny_bind (wpAny_newObj_type ?_ (by size_fits))
  refine wpAny_bind (m := firstArgMember _ _) (wpAny_of_eq (a := Value.none) (by first | rfl | (simp only [firstArgMember]; rfl)) ?_)
  refine wpAny_newObj_type ?_ (by size_fits)
  simp only [raiseNew]
  refine wpAny_bind (wpAny_handled ?_)
  first | rw [show A.in1.handled = none from hh] | rw [hh]
  refine wpAny_bind (wpAny_pure (wpAny_throw ?_))
  exact hE _ _ (((Heap.SameBut.update ..).extBut.push _).push _) ⟨_, Heap.get?_push_size _ rfl, rfl⟩

noncomputable abbrev IsEnumOut (h : Heap) (e it : Addr) (i : Int) (item : Value) (a : Addr) : Prop :=
  h.get? e = some { cls := .type "enumerate", dict := none, data := .fields #[rawInt a, .bool false, .ref it, rawInt i, .none, item], slots := #[] }

end
noncomputable def zipT_next_item_k : Σ' (P1 : Program → World → Around → (Value → Shared → Prop) → Shared → Addr → Addr → Addr → Addr → Addr → Addr → Addr → Nat → Nat → (Array Value) → (Array Value) → Value → Value → Value → Value → (Value → Shared → Prop) → Prop), (∀ prog w A E s z TI TO i1 i2 l1 l2 k1 k2 xs ys x y a b Q, P1 prog w A E s z TI TO i1 i2 l1 l2 k1 k2 xs ys x y a b Q) → ∀ (prog : Program) (w : World) (A : Around) (E : Value → Shared → Prop) (s : Shared) (z TI TO i1 i2 l1 l2 : Addr) (k1 k2 : Nat) (xs ys : Array Value) (x y a b : Value) (Q : Value → Shared → Prop) (D : ZipApart z TI TO i1 i2 l1 l2)
    (hz : IsZip s.heap z TI TO .none) (hTI : IsPair s.heap TI (.ref i1) (.ref i2)) (hTO : IsPair s.heap TO a b)
    (h1 : s.heap.IsTupleIter i1 l1 k1) (h2 : s.heap.IsListIter i2 l2 k2) (hl1 : s.heap.IsTuple l1 xs) (hl2 : s.heap.IsList l2 ys) (hx : xs[k1]? = some x) (hy : ys[k2]? = some y)
    (hQ : ∀ h', IsZip h' z TI TO (rawInt s.heap.objs.size) → IsPair h' TO x y → h'.IsTupleIter i1 l1 (k1 + 1) → h'.IsListIter i2 l2 (k2 + 1) → IsPair h' s.heap.objs.size x y → h'.objs.size = s.heap.objs.size + 1 →
      (∀ c o, c ≠ z → c ≠ TO → c ≠ i1 → c ≠ i2 → s.heap.get? c = some o → h'.get? c = some o) → Q (.ref s.heap.objs.size) { s with heap := h' }), wpAny (model prog w) A (Builtin.«zip.__next__» ⟨[.ref z], []⟩) (fun fin s' => ∃ v, fin = .done (.ret v) ∧ Q v s') E s := ⟨_, by
  intro hP_1 prog w A E s z TI TO i1 i2 l1 l2 k1 k2 xs ys x y a b Q D hz hTI hTO h1 h2 hl1 hl2 hx hy hQ
  revert D hz hTI hTO h1 h2 hl1 hl2 hx hy hQ
  exact hP_1 prog w A E s z TI TO i1 i2 l1 l2 k1 k2 xs ys x y a b Q⟩
noncomputable def zipT_next_item_R (z : Sk) : Prop := zipT_next_item_k.1 (z.pr 0) (z.w 0) (z.ar 0) (z.q 0) (z.s 0) (z.a 0) (z.a 1) (z.a 2) (z.a 3) (z.a 4) (z.a 5) (z.a 6) (z.n 0) (z.n 1) (z.av 0) (z.av 1) (z.v 0) (z.v 1) (z.v 2) (z.v 3) (z.q 1)
namespace zipT_next_item_c
def s := (skv zipT_next_item_R).s 0
def z := (skv zipT_next_item_R).a 0
def TI := (skv zipT_next_item_R).a 1
def TO := (skv zipT_next_item_R).a 2
def i1 := (skv zipT_next_item_R).a 3
def i2 := (skv zipT_next_item_R).a 4
def l1 := (skv zipT_next_item_R).a 5
def l2 := (skv zipT_next_item_R).a 6
def k1 := (skv zipT_next_item_R).n 0
def k2 := (skv zipT_next_item_R).n 1
def x := (skv zipT_next_item_R).v 0
def y := (skv zipT_next_item_R).v 1
def a := (skv zipT_next_item_R).v 2
def b := (skv zipT_next_item_R).v 3
def Q := (skv zipT_next_item_R).q 1
theorem r1 : zipT_next_item_k.1 ((skv zipT_next_item_R).pr 0) ((skv zipT_next_item_R).w 0) ((skv zipT_next_item_R).ar 0) ((skv zipT_next_item_R).q 0) s z TI TO i1 i2 l1 l2 k1 k2 ((skv zipT_next_item_R).av 0) ((skv zipT_next_item_R).av 1) x y a b Q := by
  intro D hz hTI hTO h1 h2 hl1 hl2 hx hy hQ
  show wpAny _ _ (field (.ref z) 2 >>= _) _ _ _
  refine wpAny_bind (wpAny_field hz rfl (x := .bool false) rfl ?_)
  show wpAny _ _ (field (.ref z) 3 >>= _) _ _ _
  refine wpAny_bind (wpAny_field hz rfl (x := .ref TI) rfl ?_)
  refine wpAny_bind (wpAny_seqItems hTI rfl ?_)
  show wpAny _ _ (Builtin.SmallTypes.ownedTupleIsFree (.ref z) >>= _) _ _ _
  refine wpAny_bind ?_
  unfold Builtin.SmallTypes.ownedTupleIsFree
  refine wpAny_bind (wpAny_field hz rfl (x := .none) rfl (wpAny_pure ?_))
  simp only [if_true]
  refine wpAny_bind (wpAny_rule ?_)
  refine wpAny_bind (wpAny_field hz rfl (x := .ref TO) rfl ?_)
  refine wpAny_bind (wpAny_setField_rec hz (by simp) fun h₁ hz₁ hs₁ => ?_)
  replace hz₁ : IsZip h₁ z TI TO .ellipsis := hz₁
  refine wpAny_bind ?_
  simp only [List.zipIdx_cons, List.zipIdx_nil, List.forIn_cons, List.forIn_nil]

  refine wpAny_bind (wpAny_bind (wpAny_onRaise ?_))
  show wpAny _ _ (Builtin.SmallTypes.nextOf (.ref i1) >>= _) _ _ _
  refine wpAny_bind (nextOf_tup_item (h1.extBut hs₁.extBut D.i1z) (hl1.extBut hs₁.extBut D.l1z) hx fun h₂ h1₂ hs₂ => wpAny_pure ?_)
  have hTO₂ : IsPair h₂ TO a b := hs₂.extBut _ _ D.TOi1 (hs₁.extBut _ _ D.TOz hTO)
  refine wpAny_bind (wpAny_seqItems hTO₂ rfl ?_)
  refine wpAny_bind (wpAny_updateSeq_pair hTO₂ fun h₃ hTO₃ hs₃ => ?_)
  replace hTO₃ : IsPair h₃ TO x b := hTO₃
  refine wpAny_bind (wpAny_letGo (wpAny_pure ?_))

  refine wpAny_bind (wpAny_bind (wpAny_onRaise ?_))
  show wpAny _ _ (Builtin.SmallTypes.nextOf (.ref i2) >>= _) _ _ _
  refine wpAny_bind (wpAny_nextOf_list_item (((h2.extBut hs₁.extBut D.i2z).extBut hs₂.extBut D.i12.symm).extBut hs₃.extBut D.TOi2.symm)
    (((hl2.extBut hs₁.extBut D.l2z).extBut hs₂.extBut D.l2i1).extBut hs₃.extBut D.l2TO) hy fun h₄ h2₄ hs₄ => wpAny_pure ?_)
  have hTO₄ : IsPair h₄ TO x b := hs₄.extBut _ _ D.TOi2 hTO₃
  refine wpAny_bind (wpAny_seqItems hTO₄ rfl ?_)
  refine wpAny_bind (wpAny_updateSeq_pair hTO₄ fun h₅ hTO₅ hs₅ => ?_)
  replace hTO₅ : IsPair h₅ TO x y := hTO₅
  refine wpAny_bind (wpAny_letGo (wpAny_pure (wpAny_pure ?_)))

  refine wpAny_bind (wpAny_seqItems hTO₅ rfl ?_)
  refine wpAny_bind (wpAny_newTuple ?_)
  have hsz : h₅.objs.size = s.heap.objs.size := by rw [hs₅.1, hs₄.1, hs₃.1, hs₂.1, hs₁.1]
  have hz₅ : IsZip h₅ z TI TO .ellipsis := hs₅.extBut _ _ D.TOz.symm (hs₄.extBut _ _ D.i2z.symm (hs₃.extBut _ _ D.TOz.symm (hs₂.extBut _ _ D.i1z.symm hz₁)))
  have hk₅ : ∀ c o, c ≠ z → c ≠ TO → c ≠ i1 → c ≠ i2 → s.heap.get? c = some o → h₅.get? c = some o := fun c o c1 c2 c3 c4 e =>
    hs₅.extBut _ _ c2 (hs₄.extBut _ _ c4 (hs₃.extBut _ _ c2 (hs₂.extBut _ _ c3 (hs₁.extBut _ _ c1 e))))
  have h1₅ : h₅.IsTupleIter i1 l1 (k1 + 1) := ((h1₂.extBut hs₃.extBut D.TOi1.symm).extBut hs₄.extBut D.i12).extBut hs₅.extBut D.TOi1.symm
  have h2₅ : h₅.IsListIter i2 l2 (k2 + 1) := h2₄.extBut hs₅.extBut D.TOi2.symm
  have hzlt : z < h₅.objs.size := Heap.lt_size hz₅
  have hTOlt : TO < h₅.objs.size := Heap.lt_size hTO₅
  have hi1lt : i1 < h₅.objs.size := by obtain ⟨_, e, _⟩ := h1₅; exact Heap.lt_size e
  have hi2lt : i2 < h₅.objs.size := by obtain ⟨_, e, _⟩ := h2₅; exact Heap.lt_size e
  show wpAny _ _ (Builtin.SmallTypes.ownedTupleHandOut (.ref z) (.ref h₅.objs.size) >>= _) _ _ _
  refine wpAny_bind ?_
  unfold Builtin.SmallTypes.ownedTupleHandOut
  have hz₆ : IsZip (h₅.push { cls := .type "tuple", data := .seq #[x, y] }) z TI TO .ellipsis := Heap.get?_push_of_some _ hz₅
  refine wpAny_bind (wpAny_setField_rec hz₆ (by simp) fun h₇ hz₇ hs₇ => ?_)
  replace hz₇ : IsZip h₇ z TI TO (rawInt h₅.objs.size) := hz₇
  refine wpAny_setField_rec hz₇ (by simp) fun h₈ hz₈ hs₈ => ?_
  replace hz₈ : IsZip h₈ z TI TO (rawInt h₅.objs.size) := hz₈
  have up : ∀ c o, c ≠ z → h₅.get? c = some o → h₈.get? c = some o := fun c o c1 e => hs₈.extBut _ _ c1 (hs₇.extBut _ _ c1 (Heap.get?_push_of_some _ e))
  have hT₈ : IsPair h₈ h₅.objs.size x y := hs₈.extBut _ _ (Nat.ne_of_gt hzlt) (hs₇.extBut _ _ (Nat.ne_of_gt hzlt) (Heap.get?_push_size _ rfl))
  have hz8 : h₈.objs.size = h₅.objs.size + 1 := by rw [hs₈.1, hs₇.1, Heap.size_push]
  rw [hsz] at hz₈ hT₈ hz8
  refine wpAny_pure ⟨_, rfl, ?_⟩
  show Q (.ref h₅.objs.size) _
  rw [hsz]
  exact hQ h₈ hz₈ (up _ _ D.TOz hTO₅) (tupIter_at h1₅ fun o e => up _ o D.i1z e) (h2₅.at fun o e => up _ o D.i2z e) hT₈ hz8 fun c o c1 c2 c3 c4 e => up c o c1 (hk₅ c o c1 c2 c3 c4 e)
end zipT_next_item_c
theorem zipT_next_item {prog : Program} {w : World} {A : Around} {E : Value → Shared → Prop} {s : Shared} {z TI TO i1 i2 l1 l2 : Addr} {k1 k2 : Nat} {xs ys : Array Value} {x y a b : Value} {Q : Value → Shared → Prop} (D : ZipApart z TI TO i1 i2 l1 l2)
    (hz : IsZip s.heap z TI TO .none) (hTI : IsPair s.heap TI (.ref i1) (.ref i2)) (hTO : IsPair s.heap TO a b)
    (h1 : s.heap.IsTupleIter i1 l1 k1) (h2 : s.heap.IsListIter i2 l2 k2) (hl1 : s.heap.IsTuple l1 xs) (hl2 : s.heap.IsList l2 ys) (hx : xs[k1]? = some x) (hy : ys[k2]? = some y)
    (hQ : ∀ h', IsZip h' z TI TO (rawInt s.heap.objs.size) → IsPair h' TO x y → h'.IsTupleIter i1 l1 (k1 + 1) → h'.IsListIter i2 l2 (k2 + 1) → IsPair h' s.heap.objs.size x y → h'.objs.size = s.heap.objs.size + 1 →
      (∀ c o, c ≠ z → c ≠ TO → c ≠ i1 → c ≠ i2 → s.heap.get? c = some o → h'.get? c = some o) → Q (.ref s.heap.objs.size) { s with heap := h' }) : wpAny (model prog w) A (Builtin.«zip.__next__» ⟨[.ref z], []⟩) (fun fin s' => ∃ v, fin = .done (.ret v) ∧ Q v s') E s :=
  zipT_next_item_k.2 (fun prog w A E s z TI TO i1 i2 l1 l2 k1 k2 xs ys x y a b Q => skva zipT_next_item_R zipT_next_item_c.r1 (sk_pr prog <| sk_w w <| sk_ar A <| sk_q E <| sk_s s <| sk_a z <| sk_a TI <| sk_a TO <| sk_a i1 <| sk_a i2 <| sk_a l1 <| sk_a l2 <| sk_n k1 <| sk_n k2 <| sk_av xs <| sk_av ys <| sk_v x <| sk_v y <| sk_v a <| sk_v b <| sk_q Q <| dS)) prog w A E s z TI TO i1 i2 l1 l2 k1 k2 xs ys x y a b Q D hz hTI hTO h1 h2 hl1 hl2 hx hy hQ
section
variable {prog : Program} {w : World} {A : Around} {E : Value → Shared → Prop} {s : Shared}
end
noncomputable def zipT_next_end_k : Σ' (P1 : Program → World → Around → (Value → Shared → Prop) → Shared → Addr → Addr → Addr → Addr → Addr → Addr → Addr → Nat → Nat → (Array Value) → (Array Value) → Value → Value → (PySem.Fin → Shared → Prop) → Prop), (∀ prog w A E s z TI TO i1 i2 l1 l2 k1 k2 xs ys a b Q, P1 prog w A E s z TI TO i1 i2 l1 l2 k1 k2 xs ys a b Q) → ∀ (prog : Program) (w : World) (A : Around) (E : Value → Shared → Prop) (s : Shared) (z TI TO i1 i2 l1 l2 : Addr) (k1 k2 : Nat) (xs ys : Array Value) (a b : Value) (Q : PySem.Fin → Shared → Prop) (hh : A.handled = none) (D : ZipApart z TI TO i1 i2 l1 l2)
    (hz : IsZip s.heap z TI TO .none) (hTI : IsPair s.heap TI (.ref i1) (.ref i2)) (hTO : IsPair s.heap TO a b)
    (h1 : s.heap.IsTupleIter i1 l1 k1) (h2 : s.heap.IsListIter i2 l2 k2) (hl1 : s.heap.IsTuple l1 xs) (hl2 : s.heap.IsList l2 ys) (hend : xs[k1]? = none ∨ ys[k2]? = none)
    (hE : ∀ h' e, (∀ c o, c ≠ z → c ≠ TO → c ≠ i1 → c ≠ i2 → s.heap.get? c = some o → h'.get? c = some o) → (∃ o, h'.get? e = some o ∧ o.cls = .type "StopIteration") → E (.ref e) { s with heap := h' }), wpAny (model prog w) A (Builtin.«zip.__next__» ⟨[.ref z], []⟩) Q E s := ⟨_, by
  intro hP_1 prog w A E s z TI TO i1 i2 l1 l2 k1 k2 xs ys a b Q hh D hz hTI hTO h1 h2 hl1 hl2 hend hE
  revert hh D hz hTI hTO h1 h2 hl1 hl2 hend hE
  exact hP_1 prog w A E s z TI TO i1 i2 l1 l2 k1 k2 xs ys a b Q⟩
noncomputable def zipT_next_end_R (z : Sk × (PySem.Fin → Shared → Prop)) : Prop := zipT_next_end_k.1 (z.1.pr 0) (z.1.w 0) (z.1.ar 0) (z.1.q 0) (z.1.s 0) (z.1.a 0) (z.1.a 1) (z.1.a 2) (z.1.a 3) (z.1.a 4) (z.1.a 5) (z.1.a 6) (z.1.n 0) (z.1.n 1) (z.1.av 0) (z.1.av 1) (z.1.v 0) (z.1.v 1) z.2
noncomputable def zipT_next_end_z : Sk × (PySem.Fin → Shared → Prop) := skd (dS, (fun _ _ => True)) zipT_next_end_R
namespace zipT_next_end_c
def z := zipT_next_end_z.1.a 0
def TI := zipT_next_end_z.1.a 1
def TO := zipT_next_end_z.1.a 2
def i1 := zipT_next_end_z.1.a 3
def i2 := zipT_next_end_z.1.a 4
def k1 := zipT_next_end_z.1.n 0
def k2 := zipT_next_end_z.1.n 1
def xs := zipT_next_end_z.1.av 0
def ys := zipT_next_end_z.1.av 1
def a := zipT_next_end_z.1.v 0
def b := zipT_next_end_z.1.v 1
theorem r2 : zipT_next_end_k.1 (zipT_next_end_z.1.pr 0) (zipT_next_end_z.1.w 0) (zipT_next_end_z.1.ar 0) (zipT_next_end_z.1.q 0) (zipT_next_end_z.1.s 0) z TI TO i1 i2 (zipT_next_end_z.1.a 5) (zipT_next_end_z.1.a 6) k1 k2 xs ys a b zipT_next_end_z.2 := by
  intro hh D hz hTI hTO h1 h2 hl1 hl2 hend hE
  show wpAny _ _ (field (.ref z) 2 >>= _) _ _ _
  refine wpAny_bind (wpAny_field hz rfl (x := .bool false) rfl ?_)
  show wpAny _ _ (field (.ref z) 3 >>= _) _ _ _
  refine wpAny_bind (wpAny_field hz rfl (x := .ref TI) rfl ?_)
  refine wpAny_bind (wpAny_seqItems hTI rfl ?_)
  show wpAny _ _ (Builtin.SmallTypes.ownedTupleIsFree (.ref z) >>= _) _ _ _
  refine wpAny_bind ?_
  unfold Builtin.SmallTypes.ownedTupleIsFree
  refine wpAny_bind (wpAny_field hz rfl (x := .none) rfl (wpAny_pure ?_))
  simp only [if_true]
  refine wpAny_bind (wpAny_rule ?_)
  refine wpAny_bind (wpAny_field hz rfl (x := .ref TO) rfl ?_)
  refine wpAny_bind (wpAny_setField_rec hz (by simp) fun h₁ hz₁ hs₁ => ?_)
  replace hz₁ : IsZip h₁ z TI TO .ellipsis := hz₁
  refine wpAny_bind ?_
  simp only [List.zipIdx_cons, List.zipIdx_nil, List.forIn_cons, List.forIn_nil]
  refine wpAny_bind (wpAny_bind (wpAny_onRaise ?_))
  show wpAny _ _ (Builtin.SmallTypes.nextOf (.ref i1) >>= _) _ _ _
  cases hx : xs[k1]? with
  | none =>
    refine wpAny_bind (nextOf_tup_end hh (h1.extBut hs₁.extBut D.i1z) (hl1.extBut hs₁.extBut D.l1z) hx fun h₂ e hs₂ he => ?_)
    obtain ⟨oe, hoe, hce⟩ := he
    have hz₂ : IsZip h₂ z TI TO .ellipsis := hs₂ _ _ D.i1z.symm hz₁
    have hez : e ≠ z := fun x => by subst x; rw [hz₂] at hoe; cases hoe; simp at hce
    refine wpAny_setField_rec hz₂ (by simp) fun h₃ _ hs₃ => hE h₃ e (fun c o c1 _ c3 _ x => hs₃.extBut _ _ c1 (hs₂ _ _ c3 (hs₁.extBut _ _ c1 x))) ⟨oe, hs₃.extBut _ _ hez hoe, hce⟩
  | some x =>
    have hy : ys[k2]? = none := by rcases hend with h | h; rw [hx] at h; cases h; exact h
    refine wpAny_bind (nextOf_tup_item (h1.extBut hs₁.extBut D.i1z) (hl1.extBut hs₁.extBut D.l1z) hx fun h₂ h1₂ hs₂ => wpAny_pure ?_)
    have hTO₂ : IsPair h₂ TO a b := hs₂.extBut _ _ D.TOi1 (hs₁.extBut _ _ D.TOz hTO)
    refine wpAny_bind (wpAny_seqItems hTO₂ rfl ?_)
    refine wpAny_bind (wpAny_updateSeq_pair hTO₂ fun h₃ hTO₃ hs₃ => ?_)
    refine wpAny_bind (wpAny_letGo (wpAny_pure ?_))
    refine wpAny_bind (wpAny_bind (wpAny_onRaise ?_))
    show wpAny _ _ (Builtin.SmallTypes.nextOf (.ref i2) >>= _) _ _ _
    refine wpAny_bind (wpAny_nextOf_list_end hh (((h2.extBut hs₁.extBut D.i2z).extBut hs₂.extBut D.i12.symm).extBut hs₃.extBut D.TOi2.symm)
      (((hl2.extBut hs₁.extBut D.l2z).extBut hs₂.extBut D.l2i1).extBut hs₃.extBut D.l2TO) hy fun h₄ e hs₄ he => ?_)
    obtain ⟨oe, hoe, hce⟩ := he
    have hz₄ : IsZip h₄ z TI TO .ellipsis := hs₄ _ _ D.i2z.symm (hs₃.extBut _ _ D.TOz.symm (hs₂.extBut _ _ D.i1z.symm hz₁))
    have hez : e ≠ z := fun x => by subst x; rw [hz₄] at hoe; cases hoe; simp at hce
    refine wpAny_setField_rec hz₄ (by simp) fun h₅ _ hs₅ => hE h₅ e (fun c o c1 c2 c3 c4 x => hs₅.extBut _ _ c1 (hs₄ _ _ c4 (hs₃.extBut _ _ c2 (hs₂.extBut _ _ c3 (hs₁.extBut _ _ c1 x))))) ⟨oe, hs₅.extBut _ _ hez hoe, hce⟩
end zipT_next_end_c
theorem zipT_next_end {prog : Program} {w : World} {A : Around} {E : Value → Shared → Prop} {s : Shared} {z TI TO i1 i2 l1 l2 : Addr} {k1 k2 : Nat} {xs ys : Array Value} {a b : Value} {Q : PySem.Fin → Shared → Prop} (hh : A.handled = none) (D : ZipApart z TI TO i1 i2 l1 l2)
    (hz : IsZip s.heap z TI TO .none) (hTI : IsPair s.heap TI (.ref i1) (.ref i2)) (hTO : IsPair s.heap TO a b)
    (h1 : s.heap.IsTupleIter i1 l1 k1) (h2 : s.heap.IsListIter i2 l2 k2) (hl1 : s.heap.IsTuple l1 xs) (hl2 : s.heap.IsList l2 ys) (hend : xs[k1]? = none ∨ ys[k2]? = none)
    (hE : ∀ h' e, (∀ c o, c ≠ z → c ≠ TO → c ≠ i1 → c ≠ i2 → s.heap.get? c = some o → h'.get? c = some o) → (∃ o, h'.get? e = some o ∧ o.cls = .type "StopIteration") → E (.ref e) { s with heap := h' }) : wpAny (model prog w) A (Builtin.«zip.__next__» ⟨[.ref z], []⟩) Q E s :=
  zipT_next_end_k.2 (fun prog w A E s z TI TO i1 i2 l1 l2 k1 k2 xs ys a b Q => skall _ zipT_next_end_R zipT_next_end_c.r2 ((sk_pr prog <| sk_w w <| sk_ar A <| sk_q E <| sk_s s <| sk_a z <| sk_a TI <| sk_a TO <| sk_a i1 <| sk_a i2 <| sk_a l1 <| sk_a l2 <| sk_n k1 <| sk_n k2 <| sk_av xs <| sk_av ys <| sk_v a <| sk_v b <| dS), Q)) prog w A E s z TI TO i1 i2 l1 l2 k1 k2 xs ys a b Q hh D hz hTI hTO h1 h2 hl1 hl2 hend hE
section
variable {prog : Program} {w : World} {A : Around} {E : Value → Shared → Prop} {s : Shared}
theorem pyNext_zipT_item {z TI TO i1 i2 l1 l2 : Addr} {k1 k2 : Nat} {xs ys : Array Value} {x y a b : Value} {Q : Option Value → Shared → Prop} (D : ZipApart z TI TO i1 i2 l1 l2)
    (hz : IsZip s.heap z TI TO .none) (hTI : IsPair s.heap TI (.ref i1) (.ref i2)) (hTO : IsPair s.heap TO a b)
    (h1 : s.heap.IsTupleIter i1 l1 k1) (h2 : s.heap.IsListIter i2 l2 k2) (hl1 : s.heap.IsTuple l1 xs) (hl2 : s.heap.IsList l2 ys) (hx : xs[k1]? = some x) (hy : ys[k2]? = some y)
    (hQ : ∀ h', IsZip h' z TI TO (rawInt s.heap.objs.size) → IsPair h' TO x y → h'.IsTupleIter i1 l1 (k1 + 1) → h'.IsListIter i2 l2 (k2 + 1) → IsPair h' s.heap.objs.size x y → h'.objs.size = s.heap.objs.size + 1 →
      (∀ c o, c ≠ z → c ≠ TO → c ≠ i1 → c ≠ i2 → s.heap.get? c = some o → h'.get? c = some o) → Q (some (.ref s.heap.objs.size)) { s with heap := h' }) :
    wpAny (model prog w) A (pyNext (.ref z)) Q E s := by
  have hT : s.TypeIs (.ref z) "zip" := ⟨_, hz, rfl⟩
  unfold pyNext
  exact wpAny_bind (wpAny_attempt (wpAny_callSpecial?_slot (name := Str.ofString "__next__") hT F.slot_zip_next
    (wpAny_call_entry F.slot_zip_next hT F.entry_zip_next
      (zipT_next_item D hz hTI hTO h1 h2 hl1 hl2 hx hy fun h' a1 a2 a3 a4 a5 a6 a7 => wpAny_pure (hQ h' a1 a2 a3 a4 a5 a6 a7)) (F.args_zip_next_1 _))))

theorem pyNext_zipT_end {z TI TO i1 i2 l1 l2 : Addr} {k1 k2 : Nat} {xs ys : Array Value} {a b : Value} {Q : Option Value → Shared → Prop} (hh : A.handled = none) (D : ZipApart z TI TO i1 i2 l1 l2)
    (hz : IsZip s.heap z TI TO .none) (hTI : IsPair s.heap TI (.ref i1) (.ref i2)) (hTO : IsPair s.heap TO a b)
    (h1 : s.heap.IsTupleIter i1 l1 k1) (h2 : s.heap.IsListIter i2 l2 k2) (hl1 : s.heap.IsTuple l1 xs) (hl2 : s.heap.IsList l2 ys) (hend : xs[k1]? = none ∨ ys[k2]? = none)
    (hQ : ∀ h', (∀ c o, c ≠ z → c ≠ TO → c ≠ i1 → c ≠ i2 → s.heap.get? c = some o → h'.get? c = some o) → Q none { s with heap := h' }) : wpAny (model prog w) A (pyNext (.ref z)) Q E s := by
  have hT : s.TypeIs (.ref z) "zip" := ⟨_, hz, rfl⟩
  unfold pyNext
  refine wpAny_bind (wpAny_attempt (wpAny_callSpecial?_slot (name := Str.ofString "__next__") hT F.slot_zip_next
    (wpAny_call_entry F.slot_zip_next hT F.entry_zip_next (zipT_next_end hh D hz hTI hTO h1 h2 hl1 hl2 hend fun h' e hk he => ?_) (F.args_zip_next_1 _))))
  obtain ⟨o, ho, hc⟩ := he
  refine wpAny_bind (wpAny_isInstance (T := "StopIteration") (b := true) ⟨o, ho, hc⟩ isSubtype_stop ?_)
  exact wpAny_pure (hQ _ hk)

end
noncomputable abbrev zipTH1 (h : Heap) (l1 : Addr) : Heap := h.push { cls := .type "tuple_iterator", data := .fields #[.ref l1, .int 0 0] }
noncomputable abbrev zipTH2 (h : Heap) (l1 l2 : Addr) : Heap := (zipTH1 h l1).push { cls := .type "list_iterator", data := .fields #[.ref l2, .int 0 0] }
noncomputable abbrev zipTH3 (h : Heap) (l1 l2 : Addr) : Heap := (zipTH2 h l1 l2).push { cls := .type "tuple", data := .seq #[.ref h.objs.size, .ref (zipTH1 h l1).objs.size] }
noncomputable abbrev zipTH4 (h : Heap) (l1 l2 : Addr) : Heap := (zipTH3 h l1 l2).push { cls := .type "tuple", data := .seq #[.none, .none] }
noncomputable abbrev zipTH5 (h : Heap) (l1 l2 : Addr) : Heap := (zipTH4 h l1 l2).push { cls := .type "zip", data := .fields #[.none, .bool false, .bool false, .ref (zipTH2 h l1 l2).objs.size, .ref (zipTH3 h l1 l2).objs.size] }

theorem meets_zipT_new (l1 l2 : Addr) (xs ys : Array Value) :
    Meets (Builtin.«zip.__new__» ⟨[.type "zip", .ref l1, .ref l2], []⟩) (fun _ R s => s.heap.IsTuple l1 xs ∧ s.heap.IsList l2 ys ∧
      R (.ok (.ret (.ref (zipTH4 s.heap l1 l2).objs.size))) { s with heap := zipTH5 s.heap l1 l2 }) :=
  .of_wp fun prog w A R s h => by
    obtain ⟨hp, g, d, tk, os⟩ := s; obtain ⟨hl1, hl2, h⟩ := h
    have hsub := sub_zip
    have hL1 : Heap.IsTuple (Shared.heap ⟨hp, g, d, tk, os⟩) l1 xs := hl1
    have hL2 : Heap.IsList (Shared.heap ⟨hp.push { cls := .type "tuple_iterator", data := .fields #[.ref l1, .int 0 0] }, g, d, tk, os⟩) l2 ys := Heap.IsList.push hl2 _
    wp_walk using wpAny_pyIter_tuple hL1, wpAny_pyIter_list hL2
    exact ⟨_, rfl, h⟩

section
variable {prog : Program} {w : World} {A : Around} {E : Value → Shared → Prop} {s : Shared}
end
noncomputable def call_zipT_k : Σ' (P1 : Program → World → Around → (Value → Shared → Prop) → Shared → Addr → Addr → (Array Value) → (Array Value) → (Value → Shared → Prop) → Prop), (∀ prog w A E s l1 l2 xs ys Q, P1 prog w A E s l1 l2 xs ys Q) → ∀ (prog : Program) (w : World) (A : Around) (E : Value → Shared → Prop) (s : Shared) (l1 l2 : Addr) (xs ys : Array Value) (Q : Value → Shared → Prop) (hl1 : s.heap.IsTuple l1 xs) (hl2 : s.heap.IsList l2 ys)
    (h : ∀ h', IsZip h' (s.heap.objs.size + 4) (s.heap.objs.size + 2) (s.heap.objs.size + 3) .none → IsPair h' (s.heap.objs.size + 2) (.ref s.heap.objs.size) (.ref (s.heap.objs.size + 1)) →
      IsPair h' (s.heap.objs.size + 3) .none .none → h'.IsTupleIter s.heap.objs.size l1 0 → h'.IsListIter (s.heap.objs.size + 1) l2 0 → h'.objs.size = s.heap.objs.size + 5 →
      (∀ c o, s.heap.get? c = some o → h'.get? c = some o) → Q (.ref (s.heap.objs.size + 4)) { s with heap := h' }), wpAny (model prog w) A (call (.type "zip") [.ref l1, .ref l2]) Q E s := ⟨_, by
  intro hP_1 prog w A E s l1 l2 xs ys Q hl1 hl2 h
  revert hl1 hl2 h
  exact hP_1 prog w A E s l1 l2 xs ys Q⟩
noncomputable def call_zipT_R (z : Sk) : Prop := call_zipT_k.1 (z.pr 0) (z.w 0) (z.ar 0) (z.q 0) (z.s 0) (z.a 0) (z.a 1) (z.av 0) (z.av 1) (z.q 1)
namespace call_zipT_c
def s := (skv call_zipT_R).s 0
def l1 := (skv call_zipT_R).a 0
def l2 := (skv call_zipT_R).a 1
def xs := (skv call_zipT_R).av 0
def ys := (skv call_zipT_R).av 1
theorem r3 : call_zipT_k.1 ((skv call_zipT_R).pr 0) ((skv call_zipT_R).w 0) ((skv call_zipT_R).ar 0) ((skv call_zipT_R).q 0) s l1 l2 xs ys ((skv call_zipT_R).q 1) := by
  intro hl1 hl2 h
  refine callType_new F.called_zip (by decide) (F.typeCall_zip_2 _ _) (F.newCall_zip_2 _ _) (fun obj => F.args_object_init_3 obj _ _) F.entry_zip_new
    (meets_zipT_new l1 l2 xs ys) ⟨hl1, hl2, ?_⟩
  have z1 : (zipTH1 s.heap l1).objs.size = s.heap.objs.size + 1 := Heap.size_push ..
  have z2 : (zipTH2 s.heap l1 l2).objs.size = s.heap.objs.size + 2 := by rw [Heap.size_push, z1]
  have z3 : (zipTH3 s.heap l1 l2).objs.size = s.heap.objs.size + 3 := by rw [Heap.size_push, z2]
  have z4 : (zipTH4 s.heap l1 l2).objs.size = s.heap.objs.size + 4 := by rw [Heap.size_push, z3]
  have z5 : (zipTH5 s.heap l1 l2).objs.size = s.heap.objs.size + 5 := by rw [Heap.size_push, z4]
  have g5 : (zipTH5 s.heap l1 l2).get? (zipTH4 s.heap l1 l2).objs.size = some _ := Heap.get?_push_size _ rfl
  have g4 : (zipTH5 s.heap l1 l2).get? (zipTH3 s.heap l1 l2).objs.size = some _ := Heap.get?_push_of_some _ (Heap.get?_push_size _ rfl)
  have g3 : (zipTH5 s.heap l1 l2).get? (zipTH2 s.heap l1 l2).objs.size = some _ := Heap.get?_push_of_some _ (Heap.get?_push_of_some _ (Heap.get?_push_size _ rfl))
  have g2 : (zipTH5 s.heap l1 l2).get? (zipTH1 s.heap l1).objs.size = some _ := Heap.get?_push_of_some _ (Heap.get?_push_of_some _ (Heap.get?_push_of_some _ (Heap.get?_push_size _ rfl)))
  have g1 : (zipTH5 s.heap l1 l2).get? s.heap.objs.size = some _ := Heap.get?_push_of_some _ (Heap.get?_push_of_some _ (Heap.get?_push_of_some _ (Heap.get?_push_of_some _ (Heap.get?_push_size _ rfl))))
  show _ ∧ _
  rw [z2, z3, z4] at g5
  rw [z1, z2] at g3
  rw [z3] at g4
  rw [z1] at g2
  rw [z4]
  exact ⟨⟨_, g5, rfl⟩, h _ g5 g3 g4 ⟨_, g1, rfl, rfl⟩ ⟨_, g2, rfl, rfl⟩ z5 fun c o x =>
    Heap.get?_push_of_some _ (Heap.get?_push_of_some _ (Heap.get?_push_of_some _ (Heap.get?_push_of_some _ (Heap.get?_push_of_some _ x))))⟩
end call_zipT_c
theorem call_zipT {prog : Program} {w : World} {A : Around} {E : Value → Shared → Prop} {s : Shared} {l1 l2 : Addr} {xs ys : Array Value} {Q : Value → Shared → Prop} (hl1 : s.heap.IsTuple l1 xs) (hl2 : s.heap.IsList l2 ys)
    (h : ∀ h', IsZip h' (s.heap.objs.size + 4) (s.heap.objs.size + 2) (s.heap.objs.size + 3) .none → IsPair h' (s.heap.objs.size + 2) (.ref s.heap.objs.size) (.ref (s.heap.objs.size + 1)) →
      IsPair h' (s.heap.objs.size + 3) .none .none → h'.IsTupleIter s.heap.objs.size l1 0 → h'.IsListIter (s.heap.objs.size + 1) l2 0 → h'.objs.size = s.heap.objs.size + 5 →
      (∀ c o, s.heap.get? c = some o → h'.get? c = some o) → Q (.ref (s.heap.objs.size + 4)) { s with heap := h' }) : wpAny (model prog w) A (call (.type "zip") [.ref l1, .ref l2]) Q E s :=
  call_zipT_k.2 (fun prog w A E s l1 l2 xs ys Q => skva call_zipT_R call_zipT_c.r3 (sk_pr prog <| sk_w w <| sk_ar A <| sk_q E <| sk_s s <| sk_a l1 <| sk_a l2 <| sk_av xs <| sk_av ys <| sk_q Q <| dS)) prog w A E s l1 l2 xs ys Q hl1 hl2 h
section
variable {prog : Program} {w : World} {A : Around} {E : Value → Shared → Prop} {s : Shared}
theorem zipT_keep {z TO i1 i2 : Addr} {h h' : Heap} (hk : ∀ c o, c ≠ z → c ≠ TO → c ≠ i1 → c ≠ i2 → h.get? c = some o → h'.get? c = some o) (c : Addr) (o : Obj) (hc : c ∉ [z, TO, i1, i2]) (e : h.get? c = some o) : h'.get? c = some o :=
  have h1 := List.not_mem_of_not_mem_cons hc
  have h2 := List.not_mem_of_not_mem_cons h1
  hk c o (List.ne_of_not_mem_cons hc) (List.ne_of_not_mem_cons h1) (List.ne_of_not_mem_cons h2) (List.ne_of_not_mem_cons (List.not_mem_of_not_mem_cons h2)) e
theorem zipT_ne {h : Heap} {c : Addr} {o : Obj} (e : h.get? c = some o) : h.objs.size ≠ c := Nat.ne_of_gt (Heap.lt_size e)
theorem zipT_apart {z TO i1 i2 T : Addr} (hT : T ∈ [z, TO, i1, i2]) (h : T ≠ z ∧ T ≠ TO ∧ T ≠ i1 ∧ T ≠ i2) : False := by
  cases hT with
  | head => exact h.1 rfl
  | tail _ q => cases q with
    | head => exact h.2.1 rfl
    | tail _ q => cases q with
      | head => exact h.2.2.1 rfl
      | tail _ q => exact h.2.2.2 (List.mem_singleton.1 q)
theorem walksT_zipT (hh : A.handled = none) (z TI TO i1 i2 l1 l2 : Addr) (D : ZipApart z TI TO i1 i2 l1 l2) (xs ys : Array Value) :
    WalksT prog w A z [z, TI, TO, i1, i2, l1, l2] [z, TO, i1, i2] (min xs.size ys.size)
      (fun i vals => ∃ x y, xs[i]? = some x ∧ ys[i]? = some y ∧ vals = #[x, y])
      (fun i h => IsZip h z TI TO .none ∧ IsPair h TI (.ref i1) (.ref i2) ∧ (∃ a b, IsPair h TO a b) ∧ h.IsTupleIter i1 l1 i ∧ h.IsListIter i2 l2 i ∧ h.IsTuple l1 xs ∧ h.IsList l2 ys)
      (fun i T h => IsZip h z TI TO (rawInt T) ∧ IsPair h TI (.ref i1) (.ref i2) ∧ (∃ a b, IsPair h TO a b) ∧ h.IsTupleIter i1 l1 (i + 1) ∧ h.IsListIter i2 l2 (i + 1) ∧ h.IsTuple l1 xs ∧ h.IsList l2 ys ∧
        T ≠ z ∧ T ≠ TO ∧ T ≠ i1 ∧ T ≠ i2) where
  sub := fun c hc => List.Sublist.subset (.cons₂ z (.cons TI (.cons₂ TO (.cons₂ i1 (.cons₂ i2 (.cons l1 (.cons l2 .slnil))))))) hc
  frame := fun i h h' hst hk =>
    have k0 := hk z (.head _)
    have k1 := hk TI (.tail _ (.head _))
    have k2 := hk TO (.tail _ (.tail _ (.head _)))
    have k3 := hk i1 (.tail _ (.tail _ (.tail _ (.head _))))
    have k4 := hk i2 (.tail _ (.tail _ (.tail _ (.tail _ (.head _)))))
    have k5 := hk l1 (.tail _ (.tail _ (.tail _ (.tail _ (.tail _ (.head _))))))
    have k6 := hk l2 (.tail _ (.tail _ (.tail _ (.tail _ (.tail _ (.tail _ (.head _)))))))
    ⟨k0 _ hst.1, k1 _ hst.2.1, hst.2.2.1.elim fun a hb => hb.elim fun b hTO => ⟨a, b, k2 _ hTO⟩, tupIter_at hst.2.2.2.1 k3, hst.2.2.2.2.1.at k4, tup_at hst.2.2.2.2.2.1 k5, hst.2.2.2.2.2.2.at k6⟩
  item := fun i s Q E hi hst hQ => by
    refine hst.2.2.1.elim fun a hb => hb.elim fun b hTO => ?_
    have hix : i < xs.size := Nat.lt_of_lt_of_le hi (Nat.min_le_left ..)
    have hiy : i < ys.size := Nat.lt_of_lt_of_le hi (Nat.min_le_right ..)
    have ex := Array.getElem?_eq_getElem hix
    have ey := Array.getElem?_eq_getElem hiy
    have hz := hst.1
    have h1 := hst.2.2.2.1
    have h2 := hst.2.2.2.2.1
    refine pyNext_zipT_item D hz hst.2.1 hTO h1 h2 hst.2.2.2.2.2.1 hst.2.2.2.2.2.2 ex ey fun h' a1 a2 a3 a4 a5 a6 hk => ?_
    exact hQ s.heap.objs.size #[xs[i], ys[i]] h' s.toks ⟨_, _, ex, ey, rfl⟩ (Nat.le_refl _) ⟨_, a5, rfl, _, rfl⟩
      ⟨a1, hk _ _ D.TIz D.TITO D.TIi1 D.TIi2 hst.2.1, ⟨_, _, a2⟩, a3, a4, tup_at hst.2.2.2.2.2.1 fun o e => hk _ o D.l1z D.l1TO D.l1i1 D.l1i2 e, hst.2.2.2.2.2.2.at fun o e => hk _ o D.l2z D.l2TO D.l2i1 D.l2i2 e,
        zipT_ne hz, zipT_ne hTO, h1.elim fun _ e => zipT_ne e.1, h2.elim fun _ e => zipT_ne e.1⟩
      (zipT_keep hk)
  go := fun elts k pos i T s Q E hm hQ =>
    wpAny_letOwnedTupleGo_zip hm.1 fun h' hz' hs' => hQ h' ⟨hz', hs'.extBut _ _ D.TIz hm.2.1, hm.2.2.1.elim fun a hb => hb.elim fun b hTO => ⟨a, b, hs'.extBut _ _ D.TOz hTO⟩, hm.2.2.2.1.extBut hs'.extBut D.i1z, hm.2.2.2.2.1.extBut hs'.extBut D.i2z,
      hm.2.2.2.2.2.1.extBut hs'.extBut D.l1z, hm.2.2.2.2.2.2.1.extBut hs'.extBut D.l2z⟩ fun c o hc e => hs'.extBut _ _ (List.ne_of_not_mem_cons hc) e
  apart := fun i T h hm hT => zipT_apart hT hm.2.2.2.2.2.2.2
  done := fun s Q E hst hQ => by
    refine hst.2.2.1.elim fun a hb => hb.elim fun b hTO => ?_
    have hend : xs[min xs.size ys.size]? = none ∨ ys[min xs.size ys.size]? = none :=
      (Nat.le_total xs.size ys.size).elim (fun h => .inl (Array.getElem?_eq_none (Nat.le_of_eq (Nat.min_eq_left h).symm))) (fun h => .inr (Array.getElem?_eq_none (Nat.le_of_eq (Nat.min_eq_right h).symm)))
    exact pyNext_zipT_end hh D hst.1 hst.2.1 hTO hst.2.2.2.1 hst.2.2.2.2.1 hst.2.2.2.2.2.1 hst.2.2.2.2.2.2 hend fun h' hk => hQ h' s.toks (zipT_keep hk)
  self := fun i s Q E hst hQ => wpAny_pyIter_zip hst.1 hQ

end
end Mine.Internal
end
noncomputable section -- Kzip2
theorem Mine.Internal.wTopOff17 : True := by w_top off; trivial
local macro_rules | `(tactic| walk_at "no such line") => `(tactic| fail)
open PySem PySem.W PySem.Calls PyProof.Rows
namespace Mine.Internal
section
variable {prog : Program} {w : World} {A : Around} {E : Value → Shared → Prop} {s : Shared} {env : Env} {h₀ : Heap} {target : Expr} {body : List Stmt} {Q : Flow → Shared → Prop}
end
noncomputable def ktuT_zip_k : Σ' (P1 : Program → World → Around → (Value → Shared → Prop) → Shared → Env → Heap → (List Stmt) → (Flow → Shared → Prop) → (List Expr) → Nat → Pos → Addr → Addr → Obj → Obj → (List Value) → (List Value) → Nat → Nat → (Str → Option Value) → (List (Addr × Obj)) → Prop), (∀ prog w A E s env h₀ body Q elts k pos l1 l2 lo1 lo2 xs ys n1 n2 m₀ news, P1 prog w A E s env h₀ body Q elts k pos l1 l2 lo1 lo2 xs ys n1 n2 m₀ news) → ∀ (prog : Program) (w : World) (A : Around) (E : Value → Shared → Prop) (s : Shared) (env : Env) (h₀ : Heap) (body : List Stmt) (Q : Flow → Shared → Prop) (elts : List Expr) (k : Nat) (pos : Pos) (l1 l2 : Addr) (lo1 lo2 : Obj) (xs ys : List Value) (n1 n2 : Nat) (m₀ : Str → Option Value) (news : List (Addr × Obj))
    (hh : A.handled = none) (F : Fr h₀ env.locals s.heap m₀) (N : News h₀ env.locals s.heap news) (hm1 : (l1, lo1) ∈ news) (hc1 : lo1.cls = .type "tuple") (hd1 : lo1.data = .seq xs.toArray n1) (hm2 : (l2, lo2) ∈ news) (hc2 : lo2.cls = .type "list") (hd2 : lo2.data = .seq ys.toArray n2)
    (rest₀ : ∀ I : Addr, (∀ p ∈ news, p.1 < I) → ItemsRest prog w A E h₀ env (.Tuple elts k pos) body Q s [(I + 4, "zip"), (I + 2, "tuple"), (I + 3, "tuple"), (I, "tuple_iterator"), (I + 1, "list_iterator")] [(l1, lo1), (l2, lo2)] (zipItems xs ys) m₀ news), wpAny (model prog w) A (call (.type "zip") [.ref l1, .ref l2]) (fun xv s₁ => wpAny (model prog w) A (pyIter xv) (fun it s₂ => TurnsAt prog w A h₀ env (.Tuple elts k pos) body Q E it s₂) E s₁) E s := ⟨_, by
  intro hP_1 prog w A E s env h₀ body Q elts k pos l1 l2 lo1 lo2 xs ys n1 n2 m₀ news hh F N hm1 hc1 hd1 hm2 hc2 hd2 rest₀
  have hax1 := N _ hm1
  have hax2 := N _ hm2
  have hl1 : s.heap.IsTuple l1 xs.toArray := ⟨lo1, hax1.1, hc1, n1, hd1⟩
  have hl2 : s.heap.IsList l2 ys.toArray := ⟨lo2, hax2.1, hc2, n2, hd2⟩
  have hlt1 : l1 < s.heap.objs.size := Heap.lt_size hax1.1
  have hlt2 : l2 < s.heap.objs.size := Heap.lt_size hax2.1
  have hLs : env.locals < s.heap.objs.size := F.ns.lt
  have D : ZipApart (s.heap.objs.size + 4) (s.heap.objs.size + 2) (s.heap.objs.size + 3) s.heap.objs.size (s.heap.objs.size + 1) l1 l2 := ktu_apart _ _ _ hlt1 hlt2
  revert hh F N hm1 hc1 hd1 hm2 hc2 hd2 rest₀ hax1 hax2 hl1 hl2 hlt1 hlt2 hLs D
  exact hP_1 prog w A E s env h₀ body Q elts k pos l1 l2 lo1 lo2 xs ys n1 n2 m₀ news⟩
noncomputable def ktuT_zip_R (z : Sk × Env × (List Stmt) × (Flow → Shared → Prop) × (List Expr)) : Prop := ktuT_zip_k.1 (z.1.pr 0) (z.1.w 0) (z.1.ar 0) (z.1.q 0) (z.1.s 0) z.2.1 (z.1.h 0) z.2.2.1 z.2.2.2.1 z.2.2.2.2 (z.1.n 0) (z.1.p 0) (z.1.a 0) (z.1.a 1) (z.1.o 0) (z.1.o 1) (z.1.lv 0) (z.1.lv 1) (z.1.n 1) (z.1.n 2) (z.1.m 0) (z.1.ao 0)
noncomputable def ktuT_zip_z : Sk × Env × (List Stmt) × (Flow → Shared → Prop) × (List Expr) := skd (dS, default, default, (fun _ _ => True), default) ktuT_zip_R
namespace ktuT_zip_c
def s := ktuT_zip_z.1.s 0
def env := ktuT_zip_z.2.1
def l1 := ktuT_zip_z.1.a 0
def l2 := ktuT_zip_z.1.a 1
def lo1 := ktuT_zip_z.1.o 0
def lo2 := ktuT_zip_z.1.o 1
def xs := ktuT_zip_z.1.lv 0
def ys := ktuT_zip_z.1.lv 1
def n1 := ktuT_zip_z.1.n 1
def n2 := ktuT_zip_z.1.n 2
theorem r1 : ktuT_zip_k.1 (ktuT_zip_z.1.pr 0) (ktuT_zip_z.1.w 0) (ktuT_zip_z.1.ar 0) (ktuT_zip_z.1.q 0) s env (ktuT_zip_z.1.h 0) ktuT_zip_z.2.2.1 ktuT_zip_z.2.2.2.1 ktuT_zip_z.2.2.2.2 (ktuT_zip_z.1.n 0) (ktuT_zip_z.1.p 0) l1 l2 lo1 lo2 xs ys n1 n2 (ktuT_zip_z.1.m 0) (ktuT_zip_z.1.ao 0) := by
  intro hh F N hm1 hc1 hd1 hm2 hc2 hd2 rest₀ hax1 hax2 hl1 hl2 hlt1 hlt2 hLs D
  refine call_zipT hl1 hl2 fun h' hz hTI hTO hi1 hi2 hsz hk => ?_
  refine wpAny_pyIter_zip hz ?_
  refine ktu_core (tk0 := s.toks) (keep := [(l1, lo1), (l2, lo2)]) (KTurns.ofWalksU (walksT_zipT hh _ _ _ _ _ _ _ D xs.toArray ys.toArray).toU) (by simp [zipItems_length]) ?_ ?_ ?_ ?_ ?_ ?_ ?_ ?_ (F.keeps hk) (N.grown hk) (And.intro hm1 (And.intro hm2 trivial)) (rest₀ _ fun p hp => Heap.lt_size (N p hp).1)
  · rintro i v h ⟨T, vals, rfl, ⟨x, y, hx, hy, rfl⟩, hT⟩
    exact ⟨_, zipItems_get xs ys i (x := x) (y := y) (by simpa using hx) (by simpa using hy), T, 0, rfl, hT⟩
  · rintro i h ⟨hz, hTI, ⟨a, b, hTO⟩, ⟨o1, ho1, hc1, _⟩, ⟨o2, ho2, hc2, _⟩, _⟩
    have e1 : ∃ o : Obj, h.get? (s.heap.objs.size + 4) = some o ∧ o.cls = .type "zip" := ⟨_, hz, rfl⟩
    have e2 : ∃ o : Obj, h.get? (s.heap.objs.size + 2) = some o ∧ o.cls = .type "tuple" := ⟨_, hTI, rfl⟩
    have e3 : ∃ o : Obj, h.get? (s.heap.objs.size + 3) = some o ∧ o.cls = .type "tuple" := ⟨_, hTO, rfl⟩
    obtain ⟨q1, g1, k1⟩ := e1
    obtain ⟨q2, g2, k2⟩ := e2
    obtain ⟨q3, g3, k3⟩ := e3
    refine ⟨[(s.heap.objs.size + 4, q1), (s.heap.objs.size + 2, q2), (s.heap.objs.size + 3, q3), (s.heap.objs.size, o1), (s.heap.objs.size + 1, o2)], ⟨⟨rfl, k1⟩, ⟨rfl, k2⟩, ⟨rfl, k3⟩, ⟨rfl, hc1⟩, ⟨rfl, hc2⟩, trivial⟩, fun p hp => ?_⟩
    rcases List.mem_cons.mp hp with rfl | hp
    · exact g1
    rcases List.mem_cons.mp hp with rfl | hp
    · exact g2
    rcases List.mem_cons.mp hp with rfl | hp
    · exact g3
    rcases List.mem_cons.mp hp with rfl | hp
    · exact ho1
    rw [List.mem_singleton.mp hp]
    exact ho2
  · intro b hb
    have hb' : b = s.heap.objs.size + 4 ∨ b = s.heap.objs.size + 2 ∨ b = s.heap.objs.size + 3 ∨ b = s.heap.objs.size ∨ b = s.heap.objs.size + 1 := by simpa using hb
    rcases hb' with rfl | rfl | rfl | rfl | rfl
    · exact ⟨by simp, ktu_new F (Nat.le_add_right _ _)⟩
    · exact ⟨by simp, ktu_new F (Nat.le_add_right _ _)⟩
    · exact ⟨by simp, ktu_new F (Nat.le_add_right _ _)⟩
    · exact ⟨by simp, ktu_new F (Nat.le_refl _)⟩
    · exact ⟨by simp, ktu_new F (Nat.le_add_right _ _)⟩
  · intro b hb
    have hb' : b = s.heap.objs.size + 4 ∨ b = s.heap.objs.size + 3 ∨ b = s.heap.objs.size ∨ b = s.heap.objs.size + 1 := by simpa using hb
    rcases hb' with rfl | rfl | rfl | rfl <;> simp
  · intro b hb
    have hb' : b = s.heap.objs.size + 4 ∨ b = s.heap.objs.size + 2 ∨ b = s.heap.objs.size + 3 ∨ b = s.heap.objs.size ∨ b = s.heap.objs.size + 1 ∨ b = l1 ∨ b = l2 := by simpa using hb
    rcases hb' with rfl | rfl | rfl | rfl | rfl | rfl | rfl
    · exact .inl (by simp)
    · exact .inl (by simp)
    · exact .inl (by simp)
    · exact .inl (by simp)
    · exact .inl (by simp)
    · exact .inr ⟨lo1, by simp⟩
    · exact .inr ⟨lo2, by simp⟩
  · intro hI'
    have hb' : env.locals = s.heap.objs.size + 4 ∨ env.locals = s.heap.objs.size + 2 ∨ env.locals = s.heap.objs.size + 3 ∨ env.locals = s.heap.objs.size ∨ env.locals = s.heap.objs.size + 1 ∨ env.locals = l1 ∨ env.locals = l2 := by simpa using hI'
    have n1 := hax1.2.1
    have n2 := hax2.2.1
    rcases hb' with e | e | e | e | e | e | e
    · exact ktu_ne 4 hLs e
    · exact ktu_ne 2 hLs e
    · exact ktu_ne 3 hLs e
    · exact Nat.ne_of_lt hLs e
    · exact ktu_ne 1 hLs e
    · exact n1 e.symm
    · exact n2 e.symm
  · intro p hp hI'
    have hb' : p.1 = s.heap.objs.size + 4 ∨ p.1 = s.heap.objs.size + 3 ∨ p.1 = s.heap.objs.size ∨ p.1 = s.heap.objs.size + 1 := by simpa using hI'
    have hlp := Heap.lt_size (N p hp).1
    rcases hb' with e | e | e | e
    · exact ktu_ne 4 hlp e
    · exact ktu_ne 3 hlp e
    · exact Nat.ne_of_lt hlp e
    · exact ktu_ne 1 hlp e
  · exact ⟨hz, hTI, ⟨_, _, hTO⟩, hi1, hi2, tup_at hl1 fun o e => hk l1 o e, hl2.at fun o e => hk l2 o e⟩
end ktuT_zip_c
theorem ktuT_zip {prog : Program} {w : World} {A : Around} {E : Value → Shared → Prop} {s : Shared} {env : Env} {h₀ : Heap} {body : List Stmt} {Q : Flow → Shared → Prop} {elts : List Expr} {k : Nat} {pos : Pos} {l1 l2 : Addr} {lo1 lo2 : Obj} {xs ys : List Value} {n1 n2 : Nat} {m₀ : Str → Option Value} {news : List (Addr × Obj)}
    (hh : A.handled = none) (F : Fr h₀ env.locals s.heap m₀) (N : News h₀ env.locals s.heap news) (hm1 : (l1, lo1) ∈ news) (hc1 : lo1.cls = .type "tuple") (hd1 : lo1.data = .seq xs.toArray n1) (hm2 : (l2, lo2) ∈ news) (hc2 : lo2.cls = .type "list") (hd2 : lo2.data = .seq ys.toArray n2)
    (rest₀ : ∀ I : Addr, (∀ p ∈ news, p.1 < I) → ItemsRest prog w A E h₀ env (.Tuple elts k pos) body Q s [(I + 4, "zip"), (I + 2, "tuple"), (I + 3, "tuple"), (I, "tuple_iterator"), (I + 1, "list_iterator")] [(l1, lo1), (l2, lo2)] (zipItems xs ys) m₀ news) : wpAny (model prog w) A (call (.type "zip") [.ref l1, .ref l2]) (fun xv s₁ => wpAny (model prog w) A (pyIter xv) (fun it s₂ => TurnsAt prog w A h₀ env (.Tuple elts k pos) body Q E it s₂) E s₁) E s :=
  ktuT_zip_k.2 (fun prog w A E s env h₀ body Q elts k pos l1 l2 lo1 lo2 xs ys n1 n2 m₀ news => skall _ ktuT_zip_R ktuT_zip_c.r1 ((sk_pr prog <| sk_w w <| sk_ar A <| sk_q E <| sk_s s <| sk_h h₀ <| sk_n k <| sk_p pos <| sk_a l1 <| sk_a l2 <| sk_o lo1 <| sk_o lo2 <| sk_lv xs <| sk_lv ys <| sk_n n1 <| sk_n n2 <| sk_m m₀ <| sk_ao news <| dS), env, body, Q, elts)) prog w A E s env h₀ body Q elts k pos l1 l2 lo1 lo2 xs ys n1 n2 m₀ news hh F N hm1 hc1 hd1 hm2 hc2 hd2 rest₀
section
variable {prog : Program} {w : World} {A : Around} {E : Value → Shared → Prop} {s : Shared} {env : Env} {h₀ : Heap} {target : Expr} {body : List Stmt} {Q : Flow → Shared → Prop}
end
end Mine.Internal
end
noncomputable section -- Khsv
theorem Mine.Internal.wTopOff18 : True := by w_top off; trivial
local macro_rules | `(tactic| walk_at "no such line") => `(tactic| fail)
local macro_rules
  | `(tactic| walk_at $s:str) => match [("eval BinOp", "#bin"), ("spliced", "#args"), ("isTrue Compare", "#cmp"), ("exec Assign", "#asg"), ("exec Return some", "#ret"), ("storeName", "#sto"), ("#step", "#st0"), ("#on", "#skip")].lookup s.getString with
    | some r => `(tactic| walk_at $(Lean.Syntax.mkStrLit r))
    | none => Lean.Macro.throwUnsupported
open PySem PySem.W PyProof.Rows
namespace Mine.Internal
set_option Elab.async false
noncomputable def hsv_spec_k : Σ' (P1 : World → (List (Addr × Obj)) → UInt64 → UInt64 → UInt64 → Tok → Tok → Tok → (ExcName → Option Value) → (Str → Option Value) → (Str → Option Value) → Nat → Nat → (Option (List Code)) → Str → Scope → Addr → Value → (List (Str × Addr)) → (List Env) → Around → Heap → Heap → Addr → (Str → Option Value) → Shared → (Value → Shared → Prop) → (Value → Shared → Prop) → Heap → Addr → Heap → Prop), (∀ w news hh ss v t1 t2 t3 mean mg mb dp un gd cn cs a ccd cl outer A₀ base h₀ L m s Q E gzz0y1 Lzz0y2 hzz0y3, P1 w news hh ss v t1 t2 t3 mean mg mb dp un gd cn cs a ccd cl outer A₀ base h₀ L m s Q E gzz0y1 Lzz0y2 hzz0y3) → ∀ (w : World) (news : List (Addr × Obj)) (hh ss v : UInt64) (t1 t2 t3 : Tok), Ctr w 8 80 49 news [.float hh t1, .float ss t2, .float v t3] ((Float64.cmp ss 0 == some Ordering.eq) = false ∧ Float64.isFinite (Float64.mul hh 4618441417868443648) = true ∧ (hsvI hh).natAbs < 1000)
      (RetT3 news (hsvR hh ss v) (hsvG hh ss v) (hsvB hh ss v)) := ⟨_, by
  intro hP_1 w news hh ss v t1 t2 t3
  dsimp only [Ctr, P0, LS, RetT3]
  k_fill
  intro mean mg mb dp un gd cn cs a ccd cl outer A₀ base h₀ L m s Q E B F X N T hk hpre hdp hun hret
  obtain ⟨hp1, hp2, hp3⟩ := hpre
  have hnan : Float64.isNaN (Float64.mul hh 4618441417868443648) = false := by
    cases h9 : Float64.isNaN (Float64.mul hh 4618441417868443648) with
    | false => rfl
    | true => exfalso; unfold Float64.isFinite at hp2; unfold Float64.isNaN at h9; split at h9 <;> simp_all
  have hinf : Float64.isInf (Float64.mul hh 4618441417868443648) = false := by
    cases h9 : Float64.isInf (Float64.mul hh 4618441417868443648) with
    | false => rfl
    | true => exfalso; unfold Float64.isFinite at hp2; unfold Float64.isInf at h9; split at h9 <;> simp_all
  have hbig : (Flt.toInt Float64.truncOf (Float64.mul hh 4618441417868443648)).natAbs < 2 ^ 1024 - 2 ^ 970 := Nat.lt_trans hp3 (by decide +kernel)
  have q0 : (Flt.toInt Float64.truncOf (Float64.mul hh 4618441417868443648)).fmod 6 = 0 → RetT3 news v (hsvT ss v (hsvF hh)) (hsvP ss v) h₀ L m s Q := by
    intro e; have e' : (hsvI hh).fmod 6 = 0 := e; simp only [hsvR, hsvG, hsvB, e', pick6] at hret; exact hret
  have q1 : (Flt.toInt Float64.truncOf (Float64.mul hh 4618441417868443648)).fmod 6 = 1 → RetT3 news (hsvQ ss v (hsvF hh)) v (hsvP ss v) h₀ L m s Q := by
    intro e; have e' : (hsvI hh).fmod 6 = 1 := e; simp only [hsvR, hsvG, hsvB, e', pick6] at hret; exact hret
  have q2 : (Flt.toInt Float64.truncOf (Float64.mul hh 4618441417868443648)).fmod 6 = 2 → RetT3 news (hsvP ss v) v (hsvT ss v (hsvF hh)) h₀ L m s Q := by
    intro e; have e' : (hsvI hh).fmod 6 = 2 := e; simp only [hsvR, hsvG, hsvB, e', pick6] at hret; exact hret
  have q3 : (Flt.toInt Float64.truncOf (Float64.mul hh 4618441417868443648)).fmod 6 = 3 → RetT3 news (hsvP ss v) (hsvQ ss v (hsvF hh)) v h₀ L m s Q := by
    intro e; have e' : (hsvI hh).fmod 6 = 3 := e; simp only [hsvR, hsvG, hsvB, e', pick6] at hret; exact hret
  have q4 : (Flt.toInt Float64.truncOf (Float64.mul hh 4618441417868443648)).fmod 6 = 4 → RetT3 news (hsvT ss v (hsvF hh)) (hsvP ss v) v h₀ L m s Q := by
    intro e; have e' : (hsvI hh).fmod 6 = 4 := e; simp only [hsvR, hsvG, hsvB, e', pick6] at hret; exact hret
  have q5 : (Flt.toInt Float64.truncOf (Float64.mul hh 4618441417868443648)).fmod 6 = 5 → RetT3 news v (hsvP ss v) (hsvQ ss v (hsvF hh)) h₀ L m s Q := by
    intro e; have e' : (hsvI hh).fmod 6 = 5 := e; simp only [hsvR, hsvG, hsvB, e', pick6] at hret; exact hret
  have qn : 0 ≤ (Flt.toInt Float64.truncOf (Float64.mul hh 4618441417868443648)).fmod 6 ∧ (Flt.toInt Float64.truncOf (Float64.mul hh 4618441417868443648)).fmod 6 < 6 := ⟨Int.fmod_nonneg_of_pos _ (by decide), Int.fmod_lt_of_pos _ (by decide)⟩
  clear hret
  refine wpAny_call ?_
  k_dflt cell_enter
  rename_i gzz0y1 Lzz0y2 hzz0y3 FGzz0y4 Fzz0y5 Nzz0y6 Bzz0y7 Xzz0y8 Tzz0y9
  revert B F X N T hk hdp hun hp1 hp2 hp3 hnan hinf hbig q0 q1 q2 q3 q4 q5 qn FGzz0y4 Fzz0y5 Nzz0y6 Bzz0y7 Xzz0y8 Tzz0y9 qk ek
  exact hP_1 w news hh ss v t1 t2 t3 mean mg mb dp un gd cn cs a ccd cl outer A₀ base h₀ L m s Q E gzz0y1 Lzz0y2 hzz0y3⟩
noncomputable def hsv_spec_R (z : Sk) : Prop := hsv_spec_k.1 (z.w 0) (z.ao 0) (z.u 0) (z.u 1) (z.u 2) (z.t 0) (z.t 1) (z.t 2) (z.em 0) (z.m 0) (z.m 1) (z.n 0) (z.n 1) (z.oc 0) (z.x 0) (z.sc 0) (z.a 0) (z.v 0) (z.sa 0) (z.le 0) (z.ar 0) (z.h 0) (z.h 1) (z.a 1) (z.m 2) (z.s 0) (z.q 0) (z.q 1) (z.h 2) (z.a 2) (z.h 3)
namespace hsv_spec_c
set_option Elab.async false
theorem r1 : hsv_spec_k.1 ((skv hsv_spec_R).w 0) ((skv hsv_spec_R).ao 0) ((skv hsv_spec_R).u 0) ((skv hsv_spec_R).u 1) ((skv hsv_spec_R).u 2) ((skv hsv_spec_R).t 0) ((skv hsv_spec_R).t 1) ((skv hsv_spec_R).t 2) ((skv hsv_spec_R).em 0) ((skv hsv_spec_R).m 0) ((skv hsv_spec_R).m 1) ((skv hsv_spec_R).n 0) ((skv hsv_spec_R).n 1) ((skv hsv_spec_R).oc 0) ((skv hsv_spec_R).x 0) ((skv hsv_spec_R).sc 0) ((skv hsv_spec_R).a 0) ((skv hsv_spec_R).v 0) ((skv hsv_spec_R).sa 0) ((skv hsv_spec_R).le 0) ((skv hsv_spec_R).ar 0) ((skv hsv_spec_R).h 0) ((skv hsv_spec_R).h 1) ((skv hsv_spec_R).a 1) ((skv hsv_spec_R).m 2) ((skv hsv_spec_R).s 0) ((skv hsv_spec_R).q 0) ((skv hsv_spec_R).q 1) ((skv hsv_spec_R).h 2) ((skv hsv_spec_R).a 2) ((skv hsv_spec_R).h 3) := by
  intro B F X N T hk hdp hun hp1 hp2 hp3 hnan hinf hbig q0 q1 q2 q3 q4 q5 qn FGzz0y4 Fzz0y5 Nzz0y6 Bzz0y7 Xzz0y8 Tzz0y9 qk ek
  k_steps
  all_goals first
    | exact q0 (by assumption) _ _ _ _ _ _ (by assumption) (by assumption)
    | exact q1 (by assumption) _ _ _ _ _ _ (by assumption) (by assumption)
    | exact q2 (by assumption) _ _ _ _ _ _ (by assumption) (by assumption)
    | exact q3 (by assumption) _ _ _ _ _ _ (by assumption) (by assumption)
    | exact q4 (by assumption) _ _ _ _ _ _ (by assumption) (by assumption)
    | exact q5 (by assumption) _ _ _ _ _ _ (by assumption) (by assumption)
    | (exfalso; clear q0 q1 q2 q3 q4 q5; omega)
    | (exfalso; simp_all; done)
    | skip
end hsv_spec_c
set_option Elab.async false
theorem hsv_spec (w : World) (news : List (Addr × Obj)) (hh ss v : UInt64) (t1 t2 t3 : Tok) : Ctr w 8 80 49 news [.float hh t1, .float ss t2, .float v t3] ((Float64.cmp ss 0 == some Ordering.eq) = false ∧ Float64.isFinite (Float64.mul hh 4618441417868443648) = true ∧ (hsvI hh).natAbs < 1000)
      (RetT3 news (hsvR hh ss v) (hsvG hh ss v) (hsvB hh ss v)) :=
  hsv_spec_k.2 (fun w news hh ss v t1 t2 t3 mean mg mb dp un gd cn cs a ccd cl outer A₀ base h₀ L m s Q E gzz0y1 Lzz0y2 hzz0y3 => skva hsv_spec_R hsv_spec_c.r1 (sk_w w <| sk_ao news <| sk_u hh <| sk_u ss <| sk_u v <| sk_t t1 <| sk_t t2 <| sk_t t3 <| sk_em mean <| sk_m mg <| sk_m mb <| sk_n dp <| sk_n un <| sk_oc gd <| sk_x cn <| sk_sc cs <| sk_a a <| sk_v ccd <| sk_sa cl <| sk_le outer <| sk_ar A₀ <| sk_h base <| sk_h h₀ <| sk_a L <| sk_m m <| sk_s s <| sk_q Q <| sk_q E <| sk_h gzz0y1 <| sk_a Lzz0y2 <| sk_h hzz0y3 <| dS)) w news hh ss v t1 t2 t3
end Mine.Internal
end
noncomputable section -- Klhsv
theorem Mine.Internal.wTopOff19 : True := by w_top off; trivial
local macro_rules
  | `(tactic| walk_at $s:str) => match [("eval BinOp", "#bin"), ("spliced", "#args"), ("isTrue Compare", "#cmp"), ("exec Assign", "#asg"), ("exec Return some", "#ret"), ("storeName", "#sto"), ("#step", "#st0"), ("#on", "#skip"), ("#om", "#omLKlhsv"), ("call ref", "#m1Klhsv"), ("exec For Tuple Call cons nil", "#o4Klhsv"), ("call type:zip", "#o5Klhsv")].lookup s.getString with
    | some r => `(tactic| walk_at $(Lean.Syntax.mkStrLit r))
    | none => Lean.Macro.throwUnsupported
theorem Mine.Internal.kwM_Klhsv : True := by
  k_with "#omLKlhsv" => (first | walk_at "#omKlhsv" | lia)
  k_with "#m1Klhsv" => (first | walk_at "#o3Klhsv" | walk_at "#o2Klhsv" | walk_at "#o1Klhsv")
  trivial
theorem Mine.Internal.kwN_Klhsv : True := by
  k_with "#omKlhsv" => (first | decide | (with_reducible first | assumption | walk_at "#nz" | exact Nat.succ_le_of_lt ‹_› | exact Mine.Internal.u0 ‹_› | exact Mine.Internal.u1 ‹_› (by decide) | exact Mine.Internal.u2 ‹_› (by decide) | exact Mine.Internal.u3 ‹_› (by decide) | exact Mine.Internal.leC ‹_› (by decide) | exact Mine.Internal.ltC ‹_› (by decide) | exact Mine.Internal.ltD ‹_› (by decide) | exact Mine.Internal.leD ‹_› (by decide) | exact Mine.Internal.iltC ‹_› (by decide) | exact Mine.Internal.ileC ‹_› (by decide) | exact Mine.Internal.iltD ‹_› (by decide) | exact Mine.Internal.ileD ‹_› (by decide) | exact Mine.Internal.igtC ‹_› (by decide) | exact Mine.Internal.igeC ‹_› (by decide) | exact Mine.Internal.igtP ‹_› (by decide) | exact Mine.Internal.igeP ‹_› (by decide) | exact Mine.Internal.cltC ‹_› (by decide) | exact Mine.Internal.cleC ‹_› (by decide) | exact Mine.Internal.cgtC (by decide) | exact Mine.Internal.cgeC (by decide) | exact Mine.Internal.leE ‹_› ‹_› (by decide) | exact Mine.Internal.ltE ‹_› ‹_› (by decide) | exact Mine.Internal.cltE ‹_› ‹_› (by decide) | exact Mine.Internal.cltF ‹_› ‹_› (by decide) | exact Mine.Internal.cleF ‹_› ‹_› (by decide) | exact Mine.Internal.leF ‹_› ‹_› (by decide) | fail "om: none"))
  trivial
open PySem PySem.W PyProof.Rows
namespace Mine.Internal
set_option Elab.async false
noncomputable abbrev divI (a b : Int) : UInt64 := Float64.ofFrac (decide (a < 0) != decide (b < 0)) a.natAbs b.natAbs
noncomputable abbrev RetL3F (x y z : UInt64) : Shared → (Value → Shared → Prop) → Prop :=
  fun s Q => ∀ (d : Addr) (t1 t2 t3 : Tok) (n : Nat) (h' : Heap) (tk' : Nat), Keep s.heap h' → s.heap.get? d = none → h'.get? d = some (W.listOf #[.float x t1, .float y t2, .float z t3] n) → Q (.ref d) { s with heap := h', toks := tk' }
noncomputable abbrev up64 (x : UInt64) (t : Int) : UInt64 := Float64.mul (Float64.mul x (Float64.ofInt 64)) (Float64.ofInt t)
structure HsvOk (p t sh lv : Int) : Prop where
  okT : 0 < t ∧ t < 1000 ∧ p.natAbs < 1000
  okS : 0 < sh ∧ sh < 9 ∧ 0 < lv ∧ lv < 9
  okC : (Float64.cmp (divI sh 8) 0 == some Ordering.eq) = false ∧ Float64.isFinite (Float64.mul (divI (p + 50 * t) t) 4618441417868443648) = true ∧ (hsvI (divI (p + 50 * t) t)).natAbs < 1000
  b0 : (lv * (8 * t - sh * fallI p t 0)).natAbs < 2 ^ 40
  b2 : (lv * (8 * t - sh * fallI p t 2)).natAbs < 2 ^ 40
  b4 : (lv * (8 * t - sh * fallI p t 4)).natAbs < 2 ^ 40
  n0 : nearB (up64 (hsvR (divI (p + 50 * t) t) (divI sh 8) (divI lv 8)) t) (lv * (8 * t - sh * fallI p t 0)) = true
  n2 : nearB (up64 (hsvG (divI (p + 50 * t) t) (divI sh 8) (divI lv 8)) t) (lv * (8 * t - sh * fallI p t 2)) = true
  n4 : nearB (up64 (hsvB (divI (p + 50 * t) t) (divI sh 8) (divI lv 8)) t) (lv * (8 * t - sh * fallI p t 4)) = true
theorem Mine.Internal.kw1_Klhsv : True := by
  k_with "#o1Klhsv" => (k_here; (with_reducible show wpAny _ _ (call (Value.ref 49) _) _ _ _); k_dflt (refine' hsv_spec _ _ _ _ _ _ _ _ _ _ _ _ _ _ _ _ _ _ _ _ _ _ _ _ _ _ _ _ ?k1 ?k2 ?k3 ?k4 ?k5 ?k6 ?k7 ?k8 ?k9 ?_; walk_at "#c3"; k_whole); intro d' ta' tb' tc' h' tk' F' N'; (try dsimp only); (try k_fold))
  k_with "#o2Klhsv" => (k_here; (with_reducible show wpAny _ _ (call (Value.ref 171) _) _ _ _); k_dflt (refine' falls_ctr _ _ _ _ _ _ _ _ _ _ _ _ _ _ _ _ _ _ _ _ _ _ _ _ _ _ ?k1 ?k2 ?k3 ?k4 ?k5 ?k6 ?k7 ?k8 ?k9 ?_; walk_at "#c3"; k_whole); intro d' ta' tb' tc' n' h' tk' F' N'; (try dsimp only); (try k_fold))
  k_with "#o3Klhsv" => (k_here; (with_reducible show wpAny _ _ (call (Value.ref 164) _) _ _ _); k_dflt (refine' near_spec _ _ _ _ _ _ _ _ _ _ _ _ _ _ _ _ _ _ _ _ _ _ _ _ _ _ ?k1 ?k2 ?k3 ?k4 ?k5 ?k6 ?k7 ?k8 ?k9 ?_; walk_at "#c3"; k_whole); intro t' h' tk' F' N'; (try dsimp only); (try k_fold))
  k_with "#o4Klhsv" => (k_here; (rename Fr _ _ _ _ => lF'); (with_unfolding_all refine' For_turns lF' ?_; k_whole))
  k_with "#o5Klhsv" => (k_here; (with_reducible show wpAny _ _ (call (Value.type _) [Value.ref _, Value.ref _]) (fun xv s₁ => wpAny _ _ (pyIter xv) (fun it s₂ => TurnsAt _ _ _ _ _ _ _ _ _ it s₂) _ s₁) _ _); (rename Fr _ _ _ _ => lF'); (with_unfolding_all refine ktuT_zip (xs := [_, _, _]) (ys := [_, _, _]) (by rfl) lF' (by assumption) (by k_mem) (by rfl) (by rfl) (by k_mem) (by rfl) (by rfl) ?_); clear lF'; intro i' l1; (try k_lt l1))
  trivial
noncomputable def lhsv_spec_k : Σ' (P1 : World → Int → Int → Int → Int → Tok → Tok → Tok → Tok → (ExcName → Option Value) → (Str → Option Value) → (Str → Option Value) → Nat → Nat → (Option (List Code)) → Str → Scope → Addr → Value → (List (Str × Addr)) → (List Env) → Around → Heap → Heap → Addr → (Str → Option Value) → Shared → (Value → Shared → Prop) → (Value → Shared → Prop) → Addr → Heap → Prop), (∀ w p t sh lv t1 t2 t3 t4 mean mg mb dp un gd cn cs a ccd cl outer A₀ base h₀ L m s Q E L' h', P1 w p t sh lv t1 t2 t3 t4 mean mg mb dp un gd cn cs a ccd cl outer A₀ base h₀ L m s Q E L' h') → ∀ (w : World) (p t sh lv : Int) (t1 t2 t3 t4 : Tok), CtrK w 12 120 200 [.int p t1, .int t t2, .int sh t3, .int lv t4] (fun _ => HsvOk p t sh lv)
      (RetL3F (hsvR (divI (p + 50 * t) t) (divI sh 8) (divI lv 8)) (hsvG (divI (p + 50 * t) t) (divI sh 8) (divI lv 8)) (hsvB (divI (p + 50 * t) t) (divI sh 8) (divI lv 8))) := ⟨_, by
  intro hP_1 w p t sh lv t1 t2 t3 t4
  dsimp only [CtrK, P0, LS, RetL3F]
  k_fill
  intro mean mg mb dp un gd cn cs a ccd cl outer A₀ base h₀ L m s Q E B F X T hk hpre hdp hun hret
  obtain ⟨hpA, ⟨hp4, hp5, hp6, hp7⟩, hpC, hb0, hb2, hb4, hn0, hn2, hn4⟩ := hpre
  have hp1 := hpA.1
  have hp2 := hpA.2.1
  have hp3 := hpA.2.2
  refine wpAny_call ?_
  k_dflt (refine' enterP ?k1 ?k2 ?k3 ?k5 ?kA ?kF ?kK ?k6 ?k7 ?k8 ?k9 ?kB ?_ ?c2 ?c3 ?c4 ?c5; walk_at "#c1"; k_whole; intro L' h' F' N' B' X' T'; (try dsimp only); (try k_lift B'); (try k_fold))
  revert B F X T hk hdp hun hret hpA hpC hb0 hb2 hb4 hn0 hn2 hn4 hp4 hp5 hp6 hp7 hp1 hp2 hp3 F' N' B' X' T' qk ek
  exact hP_1 w p t sh lv t1 t2 t3 t4 mean mg mb dp un gd cn cs a ccd cl outer A₀ base h₀ L m s Q E L' h'⟩
noncomputable def lhsv_spec_R (z : Sk) : Prop := lhsv_spec_k.1 (z.w 0) (z.i 0) (z.i 1) (z.i 2) (z.i 3) (z.t 0) (z.t 1) (z.t 2) (z.t 3) (z.em 0) (z.m 0) (z.m 1) (z.n 0) (z.n 1) (z.oc 0) (z.x 0) (z.sc 0) (z.a 0) (z.v 0) (z.sa 0) (z.le 0) (z.ar 0) (z.h 0) (z.h 1) (z.a 1) (z.m 2) (z.s 0) (z.q 0) (z.q 1) (z.a 2) (z.h 2)
namespace lhsv_spec_c
def h' := (skv lhsv_spec_R).h 2
noncomputable def r1_k : Σ' (P1 : Nat → Addr → Tok → Tok → Tok → Heap → Nat → Heap → Nat → Prop), (∀ tkzz1y3 d' ta' tb' tc' h' tk' hzz1y10 tk, P1 tkzz1y3 d' ta' tb' tc' h' tk' hzz1y10 tk) → lhsv_spec_k.1 ((skv lhsv_spec_R).w 0) ((skv lhsv_spec_R).i 0) ((skv lhsv_spec_R).i 1) ((skv lhsv_spec_R).i 2) ((skv lhsv_spec_R).i 3) ((skv lhsv_spec_R).t 0) ((skv lhsv_spec_R).t 1) ((skv lhsv_spec_R).t 2) ((skv lhsv_spec_R).t 3) ((skv lhsv_spec_R).em 0) ((skv lhsv_spec_R).m 0) ((skv lhsv_spec_R).m 1) ((skv lhsv_spec_R).n 0) ((skv lhsv_spec_R).n 1) ((skv lhsv_spec_R).oc 0) ((skv lhsv_spec_R).x 0) ((skv lhsv_spec_R).sc 0) ((skv lhsv_spec_R).a 0) ((skv lhsv_spec_R).v 0) ((skv lhsv_spec_R).sa 0) ((skv lhsv_spec_R).le 0) ((skv lhsv_spec_R).ar 0) ((skv lhsv_spec_R).h 0) ((skv lhsv_spec_R).h 1) ((skv lhsv_spec_R).a 1) ((skv lhsv_spec_R).m 2) ((skv lhsv_spec_R).s 0) ((skv lhsv_spec_R).q 0) ((skv lhsv_spec_R).q 1) ((skv lhsv_spec_R).a 2) h' := ⟨_, by
  intro hP_1 
  intro B F X T hk hdp hun hret hpA hpC hb0 hb2 hb4 hn0 hn2 hn4 hp4 hp5 hp6 hp7 hp1 hp2 hp3 F' N' B' X' T' qk ek
  iterate 45 (walk_at "#step")
  rename_i qkzz1y1 ekzz1y2 tkzz1y3 xzz1y4 xzz1y5 xzz1y6 xzz1y7 xzz1y8 xzz1y9 hzz1y10 mzz1y11 Nzz1y12
  revert B F X T hk hdp hun hret hpA hpC hb0 hb2 hb4 hn0 hn2 hn4 hp4 hp5 hp6 hp7 hp1 hp2 hp3 B' X' T' qkzz1y1 ekzz1y2 xzz1y4 xzz1y5 xzz1y6 xzz1y7 xzz1y8 xzz1y9 qk ek mzz1y11 lF' Nzz1y12
  exact hP_1 tkzz1y3 d' ta' tb' tc' h' tk' hzz1y10 tk⟩
noncomputable def r1_R (z : Sk) : Prop := r1_k.1 (z.n 0) (z.a 0) (z.t 0) (z.t 1) (z.t 2) (z.h 0) (z.n 1) (z.h 1) (z.n 2)
namespace r1_c
def d' := (skv r1_R).a 0
def ta' := (skv r1_R).t 0
def tb' := (skv r1_R).t 1
def tc' := (skv r1_R).t 2
def h' := (skv r1_R).h 0
def tk' := (skv r1_R).n 1
def tk := (skv r1_R).n 2
noncomputable def r2_k : Σ' (P1 : Addr → Tok → Tok → Tok → Nat → Heap → Nat → Addr → Addr → Tok → Heap → Nat → Obj → Obj → Obj → Obj → Obj → Heap → Heap → Heap → Nat → Tok → Heap → Nat → Prop), (∀ d' ta' tb' tc' n' hzz2y3 tkzz2y4 i' Tzz2y7 tzz2y8 hzz2y9 tkzz2y10 ozz2y12 ozz2y14 ozz2y16 ozz2y18 ozz2y20 hzz2y22 hzz2y25 hzz2y27 tk t' h' tk', P1 d' ta' tb' tc' n' hzz2y3 tkzz2y4 i' Tzz2y7 tzz2y8 hzz2y9 tkzz2y10 ozz2y12 ozz2y14 ozz2y16 ozz2y18 ozz2y20 hzz2y22 hzz2y25 hzz2y27 tk t' h' tk') → r1_k.1 ((skv r1_R).n 0) d' ta' tb' tc' h' tk' ((skv r1_R).h 1) tk := ⟨_, by
  intro hP_1 
  intro B F X T hk hdp hun hret hpA hpC hb0 hb2 hb4 hn0 hn2 hn4 hp4 hp5 hp6 hp7 hp1 hp2 hp3 B' X' T' qkzz1y1 ekzz1y2 xzz1y4 xzz1y5 xzz1y6 xzz1y7 xzz1y8 xzz1y9 qk ek mzz1y11 lF' Nzz1y12
  iterate 45 (walk_at "#step")
  rename_i qkzz2y1 ekzz2y2 hzz2y3 tkzz2y4 qkzz2y5 ekzz2y6 Tzz2y7 tzz2y8 hzz2y9 tkzz2y10 hTzz2y11 ozz2y12 hczz2y13 ozz2y14 hczz2y15 ozz2y16 hczz2y17 ozz2y18 hczz2y19 ozz2y20 hczz2y21 hzz2y22 Fzz2y23 Nzz2y24 hzz2y25 mzz2y26 hzz2y27 mzz2y28 Fzz2y29 Nzz2y30 xzz2y31 xzz2y32
  revert B F X T hk hdp hun hret hpA hpC hb0 hb2 hb4 hn0 hn2 hn4 hp4 hp5 hp6 hp7 hp1 hp2 hp3 B' X' T' qkzz1y1 ekzz1y2 xzz1y4 xzz1y5 xzz1y6 xzz1y7 xzz1y8 xzz1y9 qkzz2y1 ekzz2y2 mzz1y11 qkzz2y5 ekzz2y6 l1 hTzz2y11 hczz2y13 hczz2y15 hczz2y17 hczz2y19 hczz2y21 Fzz2y23 Nzz2y24 mzz2y26 mzz2y28 Fzz2y29 Nzz2y30 xzz2y31 xzz2y32 F' N' qk ek
  exact hP_1 d' ta' tb' tc' n' hzz2y3 tkzz2y4 i' Tzz2y7 tzz2y8 hzz2y9 tkzz2y10 ozz2y12 ozz2y14 ozz2y16 ozz2y18 ozz2y20 hzz2y22 hzz2y25 hzz2y27 tk t' h' tk'⟩
noncomputable def r2_R (z : Sk) : Prop := r2_k.1 (z.a 0) (z.t 0) (z.t 1) (z.t 2) (z.n 0) (z.h 0) (z.n 1) (z.a 1) (z.a 2) (z.t 3) (z.h 1) (z.n 2) (z.o 0) (z.o 1) (z.o 2) (z.o 3) (z.o 4) (z.h 2) (z.h 3) (z.h 4) (z.n 3) (z.t 4) (z.h 5) (z.n 4)
namespace r2_c
theorem r3 : r2_k.1 ((skv r2_R).a 0) ((skv r2_R).t 0) ((skv r2_R).t 1) ((skv r2_R).t 2) ((skv r2_R).n 0) ((skv r2_R).h 0) ((skv r2_R).n 1) ((skv r2_R).a 1) ((skv r2_R).a 2) ((skv r2_R).t 3) ((skv r2_R).h 1) ((skv r2_R).n 2) ((skv r2_R).o 0) ((skv r2_R).o 1) ((skv r2_R).o 2) ((skv r2_R).o 3) ((skv r2_R).o 4) ((skv r2_R).h 2) ((skv r2_R).h 3) ((skv r2_R).h 4) ((skv r2_R).n 3) ((skv r2_R).t 4) ((skv r2_R).h 5) ((skv r2_R).n 4) := by
  intro B F X T hk hdp hun hret hpA hpC hb0 hb2 hb4 hn0 hn2 hn4 hp4 hp5 hp6 hp7 hp1 hp2 hp3 B' X' T' qkzz1y1 ekzz1y2 xzz1y4 xzz1y5 xzz1y6 xzz1y7 xzz1y8 xzz1y9 qkzz2y1 ekzz2y2 mzz1y11 qkzz2y5 ekzz2y6 l1 hTzz2y11 hczz2y13 hczz2y15 hczz2y17 hczz2y19 hczz2y21 Fzz2y23 Nzz2y24 mzz2y26 mzz2y28 Fzz2y29 Nzz2y30 xzz2y31 xzz2y32 F' N' qk ek
  k_steps
  (try dsimp only)
  (with_reducible rename Fr _ _ _ _ => kF)
  (with_reducible rename News _ _ _ _ => kN)
  have h2 := kN _ List.mem_cons_self
  exact hret _ _ _ _ _ _ _ kF.keep h2.2.2 h2.1
end r2_c
theorem r2  : r1_k.1 ((skv r1_R).n 0) d' ta' tb' tc' h' tk' ((skv r1_R).h 1) tk :=
  r2_k.2 (fun d' ta' tb' tc' n' hzz2y3 tkzz2y4 i' Tzz2y7 tzz2y8 hzz2y9 tkzz2y10 ozz2y12 ozz2y14 ozz2y16 ozz2y18 ozz2y20 hzz2y22 hzz2y25 hzz2y27 tk t' h' tk' => skva r2_R r2_c.r3 (sk_a d' <| sk_t ta' <| sk_t tb' <| sk_t tc' <| sk_n n' <| sk_h hzz2y3 <| sk_n tkzz2y4 <| sk_a i' <| sk_a Tzz2y7 <| sk_t tzz2y8 <| sk_h hzz2y9 <| sk_n tkzz2y10 <| sk_o ozz2y12 <| sk_o ozz2y14 <| sk_o ozz2y16 <| sk_o ozz2y18 <| sk_o ozz2y20 <| sk_h hzz2y22 <| sk_h hzz2y25 <| sk_h hzz2y27 <| sk_n tk <| sk_t t' <| sk_h h' <| sk_n tk' <| dS)) 
end r1_c
theorem r1  : lhsv_spec_k.1 ((skv lhsv_spec_R).w 0) ((skv lhsv_spec_R).i 0) ((skv lhsv_spec_R).i 1) ((skv lhsv_spec_R).i 2) ((skv lhsv_spec_R).i 3) ((skv lhsv_spec_R).t 0) ((skv lhsv_spec_R).t 1) ((skv lhsv_spec_R).t 2) ((skv lhsv_spec_R).t 3) ((skv lhsv_spec_R).em 0) ((skv lhsv_spec_R).m 0) ((skv lhsv_spec_R).m 1) ((skv lhsv_spec_R).n 0) ((skv lhsv_spec_R).n 1) ((skv lhsv_spec_R).oc 0) ((skv lhsv_spec_R).x 0) ((skv lhsv_spec_R).sc 0) ((skv lhsv_spec_R).a 0) ((skv lhsv_spec_R).v 0) ((skv lhsv_spec_R).sa 0) ((skv lhsv_spec_R).le 0) ((skv lhsv_spec_R).ar 0) ((skv lhsv_spec_R).h 0) ((skv lhsv_spec_R).h 1) ((skv lhsv_spec_R).a 1) ((skv lhsv_spec_R).m 2) ((skv lhsv_spec_R).s 0) ((skv lhsv_spec_R).q 0) ((skv lhsv_spec_R).q 1) ((skv lhsv_spec_R).a 2) h' :=
  r1_k.2 (fun tkzz1y3 d' ta' tb' tc' h' tk' hzz1y10 tk => skva r1_R r1_c.r2 (sk_n tkzz1y3 <| sk_a d' <| sk_t ta' <| sk_t tb' <| sk_t tc' <| sk_h h' <| sk_n tk' <| sk_h hzz1y10 <| sk_n tk <| dS)) 
end lhsv_spec_c
theorem lhsv_spec (w : World) (p t sh lv : Int) (t1 t2 t3 t4 : Tok) : CtrK w 12 120 200 [.int p t1, .int t t2, .int sh t3, .int lv t4] (fun _ => HsvOk p t sh lv)
      (RetL3F (hsvR (divI (p + 50 * t) t) (divI sh 8) (divI lv 8)) (hsvG (divI (p + 50 * t) t) (divI sh 8) (divI lv 8)) (hsvB (divI (p + 50 * t) t) (divI sh 8) (divI lv 8))) :=
  lhsv_spec_k.2 (fun w p t sh lv t1 t2 t3 t4 mean mg mb dp un gd cn cs a ccd cl outer A₀ base h₀ L m s Q E L' h' => skva lhsv_spec_R lhsv_spec_c.r1 (sk_w w <| sk_i p <| sk_i t <| sk_i sh <| sk_i lv <| sk_t t1 <| sk_t t2 <| sk_t t3 <| sk_t t4 <| sk_em mean <| sk_m mg <| sk_m mb <| sk_n dp <| sk_n un <| sk_oc gd <| sk_x cn <| sk_sc cs <| sk_a a <| sk_v ccd <| sk_sa cl <| sk_le outer <| sk_ar A₀ <| sk_h base <| sk_h h₀ <| sk_a L <| sk_m m <| sk_s s <| sk_q Q <| sk_q E <| sk_a L' <| sk_h h' <| dS)) w p t sh lv t1 t2 t3 t4
end Mine.Internal
end
noncomputable section -- Kv
theorem Mine.Internal.wTopOff20 : True := by w_top off; trivial
local macro_rules | `(tactic| walk_at "no such line") => `(tactic| fail)
local macro_rules
  | `(tactic| walk_at $s:str) => match [("eval BinOp", "#bin"), ("spliced", "#args"), ("isTrue Compare", "#cmp"), ("exec Assign", "#asg0"), ("exec Return some", "#ret"), ("#step", "#st3"), ("#on", "#skip")].lookup s.getString with
    | some r => `(tactic| walk_at $(Lean.Syntax.mkStrLit r))
    | none => Lean.Macro.throwUnsupported
theorem Mine.Internal.kwS_Kv : True := by
  k_with "#d" => (repeat' (first | (with_reducible refine Prod.mk ?_ ?_) | exact default | exact Mine.Internal.dW | exact {} | exact Mine.Internal.dX | exact ⟨[], 0, 0, 0⟩))
  trivial
open PySem PySem.W PyProof.Rows
-- SK 31
namespace Mine.Internal
set_option Elab.async false
theorem v_spec (w : World) (news : List (Addr × Obj)) (m1 m2 hue : UInt64) (t1 t2 t3 : Tok) :
    Ctr w 4 40 42 news [.float m1 t1, .float m2 t2, .float hue t3] True (RetV news fun t => .float (vF m1 m2 hue) t) := by
  dsimp only [Ctr, P0, LS, RetV]
  k_fill
  intro mean mg mb dp un gd cn cs a ccd cl outer A₀ base h₀ L m s Q E B F X N T hk hpre hdp hun hret
  refine wpAny_call ?_
  k_dflt cell_enter
  rename_i za1 za2 za3 za4 za5 za6 za7 za8 za9; revert B F X N T hk hdp hun hret za4 za5 za6 za7 za8 za9 qk ek; revert w news m1 m2 hue t1 t2 t3 mean mg mb dp un gd cn cs a ccd cl outer A₀ base h₀ L m s Q E za1 za2 za3; refine (sk31 (P := ?Pza) ?dza ((?fza : ∀ a b c d e f g h i j k l m n o p q r s t u v w x y z A B C D E, ?Pza a b c d e f g h i j k l m n o p q r s t u v w x y z A B C D E) _ _ _ _ _ _ _ _ _ _ _ _ _ _ _ _ _ _ _ _ _ _ _ _ _ _ _ _ _ _ _) : _); (case dza => walk_at "#d"); intro w news m1 m2 hue t1 t2 t3 mean mg mb dp un gd cn cs a ccd cl outer A₀ base h₀ L m s Q E za1 za2 za3 B F X N T hk hdp hun hret za4 za5 za6 za7 za8 za9 qk ek
  k_steps
  all_goals (have hf : ∀ t x h' tk', x = vF m1 m2 hue → Fr h₀ L h' m → News h₀ L h' news → Q (.float x t) { s with heap := h', toks := tk' } := fun t x h' tk' e F N => e ▸ hret t h' tk' F N)
  all_goals (refine hf _ _ _ _ ?_ (by assumption) (by assumption); unfold vF; simp [*])
end Mine.Internal
end
noncomputable section -- Khls
theorem Mine.Internal.wTopOff21 : True := by w_top off; trivial
local macro_rules
  | `(tactic| walk_at $s:str) => match [("eval BinOp", "#bin"), ("spliced", "#args"), ("isTrue Compare", "#cmp"), ("exec Assign", "#asg0"), ("exec Return some", "#ret"), ("#step", "#st0"), ("#on", "#skip"), ("call ref", "#o1Khls")].lookup s.getString with
    | some r => `(tactic| walk_at $(Lean.Syntax.mkStrLit r))
    | none => Lean.Macro.throwUnsupported
open PySem PySem.W PyProof.Rows
namespace Mine.Internal
set_option Elab.async false
theorem Mine.Internal.kw1_Khls : True := by
  k_with "#o1Khls" => (k_here; (with_reducible show wpAny _ _ (call (Value.ref 42) _) _ _ _); k_dflt (refine' v_spec _ _ _ _ _ _ _ _ _ _ _ _ _ _ _ _ _ _ _ _ _ _ _ _ _ _ _ _ ?k1 ?k2 ?k3 ?k4 ?k5 ?k6 ?k7 ?k8 ?k9 ?_; (case k1 => k_asm); (case k2 => k_asm); (case k3 => k_asm); (case k4 => k_asm); (case k5 => k_asm); (case k6 => first | exact rfl | assumption); (case k7 => trivial); (case k8 => ktr_room); (case k9 => ktr_units); k_whole); intro t' h' tk' F' N'; (try dsimp only); (try k_fold))
  trivial
noncomputable def hls_spec_k : Σ' (P1 : World → (List (Addr × Obj)) → UInt64 → UInt64 → UInt64 → Tok → Tok → Tok → (ExcName → Option Value) → (Str → Option Value) → (Str → Option Value) → Nat → Nat → (Option (List Code)) → Str → Scope → Addr → Value → (List (Str × Addr)) → (List Env) → Around → Heap → Heap → Addr → (Str → Option Value) → Shared → (Value → Shared → Prop) → (Value → Shared → Prop) → Heap → Addr → Heap → Prop), (∀ w news hh l ss t1 t2 t3 mean mg mb dp un gd cn cs a ccd cl outer A₀ base h₀ L m s Q E gzz0y1 Lzz0y2 hzz0y3, P1 w news hh l ss t1 t2 t3 mean mg mb dp un gd cn cs a ccd cl outer A₀ base h₀ L m s Q E gzz0y1 Lzz0y2 hzz0y3) → ∀ (w : World) (news : List (Addr × Obj)) (hh l ss : UInt64) (t1 t2 t3 : Tok), Ctr w 8 80 35 news [.float hh t1, .float l t2, .float ss t3] ((Float64.cmp ss 0 == some Ordering.eq) = false)
      (RetT3 news (vF (hlsM1 l ss) (hlsM2 l ss) (Float64.add hh 4599676419421066581)) (vF (hlsM1 l ss) (hlsM2 l ss) hh) (vF (hlsM1 l ss) (hlsM2 l ss) (Float64.sub hh 4599676419421066581))) := ⟨_, by
  intro hP_1 w news hh l ss t1 t2 t3
  dsimp only [Ctr, P0, LS, RetT3]
  k_fill
  intro mean mg mb dp un gd cn cs a ccd cl outer A₀ base h₀ L m s Q E B F X N T hk hpre hdp hun hret
  refine wpAny_call ?_
  k_dflt cell_enter
  rename_i gzz0y1 Lzz0y2 hzz0y3 FGzz0y4 Fzz0y5 Nzz0y6 Bzz0y7 Xzz0y8 Tzz0y9
  revert B F X N T hk hpre hdp hun hret FGzz0y4 Fzz0y5 Nzz0y6 Bzz0y7 Xzz0y8 Tzz0y9 qk ek
  exact hP_1 w news hh l ss t1 t2 t3 mean mg mb dp un gd cn cs a ccd cl outer A₀ base h₀ L m s Q E gzz0y1 Lzz0y2 hzz0y3⟩
noncomputable def hls_spec_R (z : Sk) : Prop := hls_spec_k.1 (z.w 0) (z.ao 0) (z.u 0) (z.u 1) (z.u 2) (z.t 0) (z.t 1) (z.t 2) (z.em 0) (z.m 0) (z.m 1) (z.n 0) (z.n 1) (z.oc 0) (z.x 0) (z.sc 0) (z.a 0) (z.v 0) (z.sa 0) (z.le 0) (z.ar 0) (z.h 0) (z.h 1) (z.a 1) (z.m 2) (z.s 0) (z.q 0) (z.q 1) (z.h 2) (z.a 2) (z.h 3)
namespace hls_spec_c
def l := (skv hls_spec_R).u 1
def ss := (skv hls_spec_R).u 2
theorem r1 : hls_spec_k.1 ((skv hls_spec_R).w 0) ((skv hls_spec_R).ao 0) ((skv hls_spec_R).u 0) l ss ((skv hls_spec_R).t 0) ((skv hls_spec_R).t 1) ((skv hls_spec_R).t 2) ((skv hls_spec_R).em 0) ((skv hls_spec_R).m 0) ((skv hls_spec_R).m 1) ((skv hls_spec_R).n 0) ((skv hls_spec_R).n 1) ((skv hls_spec_R).oc 0) ((skv hls_spec_R).x 0) ((skv hls_spec_R).sc 0) ((skv hls_spec_R).a 0) ((skv hls_spec_R).v 0) ((skv hls_spec_R).sa 0) ((skv hls_spec_R).le 0) ((skv hls_spec_R).ar 0) ((skv hls_spec_R).h 0) ((skv hls_spec_R).h 1) ((skv hls_spec_R).a 1) ((skv hls_spec_R).m 2) ((skv hls_spec_R).s 0) ((skv hls_spec_R).q 0) ((skv hls_spec_R).q 1) ((skv hls_spec_R).h 2) ((skv hls_spec_R).a 2) ((skv hls_spec_R).h 3) := by
  intro B F X N T hk hpre hdp hun hret FGzz0y4 Fzz0y5 Nzz0y6 Bzz0y7 Xzz0y8 Tzz0y9 qk ek
  k_steps
  · have e : hlsM2 l ss = _ := if_pos (by assumption)
    simp only [hlsM1, e] at hret
    exact hret _ _ _ _ _ _ (by assumption) (by assumption)
  · have e : hlsM2 l ss = _ := if_neg (by rw [show leB l 4602678819172646912 = false by assumption]; exact Bool.false_ne_true)
    simp only [hlsM1, e] at hret
    exact hret _ _ _ _ _ _ (by assumption) (by assumption)
end hls_spec_c
theorem hls_spec (w : World) (news : List (Addr × Obj)) (hh l ss : UInt64) (t1 t2 t3 : Tok) : Ctr w 8 80 35 news [.float hh t1, .float l t2, .float ss t3] ((Float64.cmp ss 0 == some Ordering.eq) = false)
      (RetT3 news (vF (hlsM1 l ss) (hlsM2 l ss) (Float64.add hh 4599676419421066581)) (vF (hlsM1 l ss) (hlsM2 l ss) hh) (vF (hlsM1 l ss) (hlsM2 l ss) (Float64.sub hh 4599676419421066581))) :=
  hls_spec_k.2 (fun w news hh l ss t1 t2 t3 mean mg mb dp un gd cn cs a ccd cl outer A₀ base h₀ L m s Q E gzz0y1 Lzz0y2 hzz0y3 => skva hls_spec_R hls_spec_c.r1 (sk_w w <| sk_ao news <| sk_u hh <| sk_u l <| sk_u ss <| sk_t t1 <| sk_t t2 <| sk_t t3 <| sk_em mean <| sk_m mg <| sk_m mb <| sk_n dp <| sk_n un <| sk_oc gd <| sk_x cn <| sk_sc cs <| sk_a a <| sk_v ccd <| sk_sa cl <| sk_le outer <| sk_ar A₀ <| sk_h base <| sk_h h₀ <| sk_a L <| sk_m m <| sk_s s <| sk_q Q <| sk_q E <| sk_h gzz0y1 <| sk_a Lzz0y2 <| sk_h hzz0y3 <| dS)) w news hh l ss t1 t2 t3
end Mine.Internal
end
noncomputable section -- Klhls
theorem Mine.Internal.wTopOff22 : True := by w_top off; trivial
local macro_rules | `(tactic| walk_at "no such line") => `(tactic| fail)
local macro_rules
  | `(tactic| walk_at $s:str) => match [("eval BinOp", "#bin"), ("spliced", "#args"), ("isTrue Compare", "#cmp"), ("exec Assign", "#asg"), ("exec Return some", "#ret"), ("storeName", "#sto"), ("#step", "#st0"), ("#on", "#skip"), ("#om", "#omKlhls"), ("call ref", "#m0Klhls"), ("exec For Tuple Call cons nil", "#o4Klhls"), ("call type:zip", "#o5Klhls"), ("call builtin:min", "#o6Klhls")].lookup s.getString with
    | some r => `(tactic| walk_at $(Lean.Syntax.mkStrLit r))
    | none => Lean.Macro.throwUnsupported
theorem Mine.Internal.kwM_Klhls : True := by
  k_with "#m0Klhls" => (first | walk_at "#o3Klhls" | walk_at "#o2Klhls" | walk_at "#o1Klhls")
  trivial
theorem Mine.Internal.kwN_Klhls : True := by
  k_with "#omKlhls" => (first | decide | (with_reducible first | assumption | walk_at "#nz" | exact Nat.succ_le_of_lt ‹_› | exact Mine.Internal.u0 ‹_› | exact Mine.Internal.u1 ‹_› (by decide) | exact Mine.Internal.u2 ‹_› (by decide) | exact Mine.Internal.u3 ‹_› (by decide) | exact Mine.Internal.leC ‹_› (by decide) | exact Mine.Internal.ltC ‹_› (by decide) | exact Mine.Internal.ltD ‹_› (by decide) | exact Mine.Internal.leD ‹_› (by decide) | exact Mine.Internal.iltC ‹_› (by decide) | exact Mine.Internal.ileC ‹_› (by decide) | exact Mine.Internal.iltD ‹_› (by decide) | exact Mine.Internal.ileD ‹_› (by decide) | exact Mine.Internal.igtC ‹_› (by decide) | exact Mine.Internal.igeC ‹_› (by decide) | exact Mine.Internal.igtP ‹_› (by decide) | exact Mine.Internal.igeP ‹_› (by decide) | exact Mine.Internal.cltC ‹_› (by decide) | exact Mine.Internal.cleC ‹_› (by decide) | exact Mine.Internal.cgtC (by decide) | exact Mine.Internal.cgeC (by decide) | exact Mine.Internal.leE ‹_› ‹_› (by decide) | exact Mine.Internal.ltE ‹_› ‹_› (by decide) | exact Mine.Internal.cltE ‹_› ‹_› (by decide) | exact Mine.Internal.cltF ‹_› ‹_› (by decide) | exact Mine.Internal.cleF ‹_› ‹_› (by decide) | exact Mine.Internal.leF ‹_› ‹_› (by decide) | fail "om: none"))
  trivial
open PySem PySem.W PyProof.Rows
namespace Mine.Internal
set_option Elab.async false
noncomputable abbrev hlsX (p t sh lt : Int) : UInt64 := vF (hlsM1 (divI lt 8) (divI sh 8)) (hlsM2 (divI lt 8) (divI sh 8)) (Float64.add (divI p t) 4599676419421066581)
noncomputable abbrev hlsY (p t sh lt : Int) : UInt64 := vF (hlsM1 (divI lt 8) (divI sh 8)) (hlsM2 (divI lt 8) (divI sh 8)) (divI p t)
noncomputable abbrev hlsZ (p t sh lt : Int) : UInt64 := vF (hlsM1 (divI lt 8) (divI sh 8)) (hlsM2 (divI lt 8) (divI sh 8)) (Float64.sub (divI p t) 4599676419421066581)
noncomputable abbrev hlsDue (p t sh lt c : Int) : Int := 8 * lt * t + sh * min lt (8 - lt) * (t - 2 * fallI p t c)
structure HlsOk (p t sh lt : Int) : Prop where
  okT : 0 < t ∧ t < 1000 ∧ p.natAbs < 1000
  okS : 0 < sh ∧ sh < 9 ∧ 0 < lt ∧ lt < 8
  okC : (Float64.cmp (divI sh 8) 0 == some Ordering.eq) = false
  b0 : (hlsDue p t sh lt 0).natAbs < 2 ^ 40
  b2 : (hlsDue p t sh lt 2).natAbs < 2 ^ 40
  b4 : (hlsDue p t sh lt 4).natAbs < 2 ^ 40
  n0 : nearB (up64 (hlsX p t sh lt) t) (hlsDue p t sh lt 0) = true
  n2 : nearB (up64 (hlsY p t sh lt) t) (hlsDue p t sh lt 2) = true
  n4 : nearB (up64 (hlsZ p t sh lt) t) (hlsDue p t sh lt 4) = true
theorem Mine.Internal.kw1_Klhls : True := by
  k_with "#o1Klhls" => (k_here; (with_reducible show wpAny _ _ (call (Value.ref 35) _) _ _ _); k_dflt (refine' hls_spec _ _ _ _ _ _ _ _ _ _ _ _ _ _ _ _ _ _ _ _ _ _ _ _ _ _ _ _ ?k1 ?k2 ?k3 ?k4 ?k5 ?k6 ?k7 ?k8 ?k9 ?_; walk_at "#c3"; k_whole); intro d' ta' tb' tc' h' tk' F' N'; (try dsimp only); (try k_fold))
  k_with "#o2Klhls" => (k_here; (with_reducible show wpAny _ _ (call (Value.ref 171) _) _ _ _); k_dflt (refine' falls_ctr _ _ _ _ _ _ _ _ _ _ _ _ _ _ _ _ _ _ _ _ _ _ _ _ _ _ ?k1 ?k2 ?k3 ?k4 ?k5 ?k6 ?k7 ?k8 ?k9 ?_; walk_at "#c3"; k_whole); intro d' ta' tb' tc' n' h' tk' F' N'; (try dsimp only); (try k_fold))
  k_with "#o3Klhls" => (k_here; (with_reducible show wpAny _ _ (call (Value.ref 164) _) _ _ _); k_dflt (refine' near_spec _ _ _ _ _ _ _ _ _ _ _ _ _ _ _ _ _ _ _ _ _ _ _ _ _ _ ?k1 ?k2 ?k3 ?k4 ?k5 ?k6 ?k7 ?k8 ?k9 ?_; walk_at "#c3"; k_whole); intro t' h' tk' F' N'; (try dsimp only); (try k_fold))
  k_with "#o4Klhls" => (k_here; (rename Fr _ _ _ _ => lF'); (with_unfolding_all refine' For_turns lF' ?_; k_whole))
  k_with "#o5Klhls" => (k_here; (with_reducible show wpAny _ _ (call (Value.type _) [Value.ref _, Value.ref _]) (fun xv s₁ => wpAny _ _ (pyIter xv) (fun it s₂ => TurnsAt _ _ _ _ _ _ _ _ _ it s₂) _ s₁) _ _); (rename Fr _ _ _ _ => lF'); (with_unfolding_all refine ktuT_zip (xs := [_, _, _]) (ys := [_, _, _]) (by rfl) lF' (by assumption) (by k_mem) (by rfl) (by rfl) (by k_mem) (by rfl) (by rfl) ?_); clear lF'; intro i' l1; (try k_lt l1))
  k_with "#o6Klhls" => (k_here; (with_reducible show wpAny _ _ (call (Value.builtin _) [Value.int _ _, Value.int _ _]) _ _ _); k_dflt (refine' min2_T ?k1 ?k2 ?k3 ?_; (case k1 => rfl); (case k2 => k_asm); (case k3 => k_asm); k_whole); intro h' tk' t' F' N'; (try dsimp only))
  trivial
noncomputable def lhls_spec_k : Σ' (P1 : World → Int → Int → Int → Int → Tok → Tok → Tok → Tok → (ExcName → Option Value) → (Str → Option Value) → (Str → Option Value) → Nat → Nat → (Option (List Code)) → Str → Scope → Addr → Value → (List (Str × Addr)) → (List Env) → Around → Heap → Heap → Addr → (Str → Option Value) → Shared → (Value → Shared → Prop) → (Value → Shared → Prop) → Addr → Heap → Prop), (∀ w p t sh lt t1 t2 t3 t4 mean mg mb dp un gd cn cs a ccd cl outer A₀ base h₀ L m s Q E L' h', P1 w p t sh lt t1 t2 t3 t4 mean mg mb dp un gd cn cs a ccd cl outer A₀ base h₀ L m s Q E L' h') → ∀ (w : World) (p t sh lt : Int) (t1 t2 t3 t4 : Tok), CtrK w 12 120 207 [.int p t1, .int t t2, .int sh t3, .int lt t4] (fun _ => HlsOk p t sh lt)
      (RetL3F (hlsX p t sh lt) (hlsY p t sh lt) (hlsZ p t sh lt)) := ⟨_, by
  intro hP_1 w p t sh lt t1 t2 t3 t4
  dsimp only [CtrK, P0, LS, RetL3F]
  k_fill
  intro mean mg mb dp un gd cn cs a ccd cl outer A₀ base h₀ L m s Q E B F X T hk hpre hdp hun hret
  obtain ⟨hpA, ⟨hp4, hp5, hp6, hp7⟩, hpC, hb0, hb2, hb4, hn0, hn2, hn4⟩ := hpre
  have hp1 := hpA.1
  have hp2 := hpA.2.1
  have hp3 := hpA.2.2
  have hm0 : 0 ≤ min lt (8 - lt) ∧ min lt (8 - lt) ≤ 4 := by omega
  have hm1 : 0 ≤ sh * min lt (8 - lt) := Int.mul_nonneg (by omega) hm0.1
  have hm2 : sh * min lt (8 - lt) < 100 := by
    have h1 : sh * min lt (8 - lt) ≤ 8 * min lt (8 - lt) := Int.mul_le_mul_of_nonneg_right (by omega) hm0.1
    omega
  refine wpAny_call ?_
  k_dflt (refine' enterP ?k1 ?k2 ?k3 ?k5 ?kA ?kF ?kK ?k6 ?k7 ?k8 ?k9 ?kB ?_ ?c2 ?c3 ?c4 ?c5; walk_at "#c1"; k_whole; intro L' h' F' N' B' X' T'; (try dsimp only); (try k_lift B'); (try k_fold))
  revert B F X T hk hdp hun hret hpA hpC hb0 hb2 hb4 hn0 hn2 hn4 hp4 hp5 hp6 hp7 hp1 hp2 hp3 hm0 hm1 hm2 F' N' B' X' T' qk ek
  exact hP_1 w p t sh lt t1 t2 t3 t4 mean mg mb dp un gd cn cs a ccd cl outer A₀ base h₀ L m s Q E L' h'⟩
noncomputable def lhls_spec_R (z : Sk) : Prop := lhls_spec_k.1 (z.w 0) (z.i 0) (z.i 1) (z.i 2) (z.i 3) (z.t 0) (z.t 1) (z.t 2) (z.t 3) (z.em 0) (z.m 0) (z.m 1) (z.n 0) (z.n 1) (z.oc 0) (z.x 0) (z.sc 0) (z.a 0) (z.v 0) (z.sa 0) (z.le 0) (z.ar 0) (z.h 0) (z.h 1) (z.a 1) (z.m 2) (z.s 0) (z.q 0) (z.q 1) (z.a 2) (z.h 2)
namespace lhls_spec_c
def h' := (skv lhls_spec_R).h 2
noncomputable def r1_k : Σ' (P1 : Nat → Addr → Tok → Tok → Tok → Heap → Nat → Heap → Nat → Prop), (∀ tkzz1y3 d' ta' tb' tc' h' tk' hzz1y10 tk, P1 tkzz1y3 d' ta' tb' tc' h' tk' hzz1y10 tk) → lhls_spec_k.1 ((skv lhls_spec_R).w 0) ((skv lhls_spec_R).i 0) ((skv lhls_spec_R).i 1) ((skv lhls_spec_R).i 2) ((skv lhls_spec_R).i 3) ((skv lhls_spec_R).t 0) ((skv lhls_spec_R).t 1) ((skv lhls_spec_R).t 2) ((skv lhls_spec_R).t 3) ((skv lhls_spec_R).em 0) ((skv lhls_spec_R).m 0) ((skv lhls_spec_R).m 1) ((skv lhls_spec_R).n 0) ((skv lhls_spec_R).n 1) ((skv lhls_spec_R).oc 0) ((skv lhls_spec_R).x 0) ((skv lhls_spec_R).sc 0) ((skv lhls_spec_R).a 0) ((skv lhls_spec_R).v 0) ((skv lhls_spec_R).sa 0) ((skv lhls_spec_R).le 0) ((skv lhls_spec_R).ar 0) ((skv lhls_spec_R).h 0) ((skv lhls_spec_R).h 1) ((skv lhls_spec_R).a 1) ((skv lhls_spec_R).m 2) ((skv lhls_spec_R).s 0) ((skv lhls_spec_R).q 0) ((skv lhls_spec_R).q 1) ((skv lhls_spec_R).a 2) h' := ⟨_, by
  intro hP_1 
  intro B F X T hk hdp hun hret hpA hpC hb0 hb2 hb4 hn0 hn2 hn4 hp4 hp5 hp6 hp7 hp1 hp2 hp3 hm0 hm1 hm2 F' N' B' X' T' qk ek
  iterate 45 (walk_at "#step")
  rename_i qkzz1y1 ekzz1y2 tkzz1y3 xzz1y4 xzz1y5 xzz1y6 xzz1y7 xzz1y8 xzz1y9 hzz1y10 mzz1y11 Nzz1y12
  revert B F X T hk hdp hun hret hpA hpC hb0 hb2 hb4 hn0 hn2 hn4 hp4 hp5 hp6 hp7 hp1 hp2 hp3 hm0 hm1 hm2 B' X' T' qkzz1y1 ekzz1y2 xzz1y4 xzz1y5 xzz1y6 xzz1y7 xzz1y8 xzz1y9 qk ek mzz1y11 lF' Nzz1y12
  exact hP_1 tkzz1y3 d' ta' tb' tc' h' tk' hzz1y10 tk⟩
noncomputable def r1_R (z : Sk) : Prop := r1_k.1 (z.n 0) (z.a 0) (z.t 0) (z.t 1) (z.t 2) (z.h 0) (z.n 1) (z.h 1) (z.n 2)
namespace r1_c
def d' := (skv r1_R).a 0
def ta' := (skv r1_R).t 0
def tb' := (skv r1_R).t 1
def tc' := (skv r1_R).t 2
def h' := (skv r1_R).h 0
def tk' := (skv r1_R).n 1
def tk := (skv r1_R).n 2
noncomputable def r2_k : Σ' (P1 : Addr → Tok → Tok → Tok → Nat → Heap → Nat → Addr → Addr → Tok → Heap → Nat → Obj → Obj → Obj → Obj → Obj → Heap → Heap → Heap → Nat → Heap → Nat → Tok → Heap → Nat → Prop), (∀ d' ta' tb' tc' n' hzz2y3 tkzz2y4 i' Tzz2y5 tzz2y6 hzz2y7 tkzz2y8 ozz2y10 ozz2y12 ozz2y14 ozz2y16 ozz2y18 hzz2y20 hzz2y23 hzz2y25 tkzz2y27 h' tk' t' hzz2y28 tk, P1 d' ta' tb' tc' n' hzz2y3 tkzz2y4 i' Tzz2y5 tzz2y6 hzz2y7 tkzz2y8 ozz2y10 ozz2y12 ozz2y14 ozz2y16 ozz2y18 hzz2y20 hzz2y23 hzz2y25 tkzz2y27 h' tk' t' hzz2y28 tk) → r1_k.1 ((skv r1_R).n 0) d' ta' tb' tc' h' tk' ((skv r1_R).h 1) tk := ⟨_, by
  intro hP_1 
  intro B F X T hk hdp hun hret hpA hpC hb0 hb2 hb4 hn0 hn2 hn4 hp4 hp5 hp6 hp7 hp1 hp2 hp3 hm0 hm1 hm2 B' X' T' qkzz1y1 ekzz1y2 xzz1y4 xzz1y5 xzz1y6 xzz1y7 xzz1y8 xzz1y9 qk ek mzz1y11 lF' Nzz1y12
  iterate 45 (walk_at "#step")
  rename_i qkzz2y1 ekzz2y2 hzz2y3 tkzz2y4 Tzz2y5 tzz2y6 hzz2y7 tkzz2y8 hTzz2y9 ozz2y10 hczz2y11 ozz2y12 hczz2y13 ozz2y14 hczz2y15 ozz2y16 hczz2y17 ozz2y18 hczz2y19 hzz2y20 Fzz2y21 Nzz2y22 hzz2y23 mzz2y24 hzz2y25 mzz2y26 tkzz2y27 hzz2y28 mzz2y29 Fzz2y30 Nzz2y31
  revert B F X T hk hdp hun hret hpA hpC hb0 hb2 hb4 hn0 hn2 hn4 hp4 hp5 hp6 hp7 hp1 hp2 hp3 hm0 hm1 hm2 B' X' T' qkzz1y1 ekzz1y2 xzz1y4 xzz1y5 xzz1y6 xzz1y7 xzz1y8 xzz1y9 qkzz2y1 ekzz2y2 mzz1y11 qk ek l1 hTzz2y9 hczz2y11 hczz2y13 hczz2y15 hczz2y17 hczz2y19 Fzz2y21 Nzz2y22 mzz2y24 mzz2y26 mzz2y29 Fzz2y30 Nzz2y31
  exact hP_1 d' ta' tb' tc' n' hzz2y3 tkzz2y4 i' Tzz2y5 tzz2y6 hzz2y7 tkzz2y8 ozz2y10 ozz2y12 ozz2y14 ozz2y16 ozz2y18 hzz2y20 hzz2y23 hzz2y25 tkzz2y27 h' tk' t' hzz2y28 tk⟩
noncomputable def r2_R (z : Sk) : Prop := r2_k.1 (z.a 0) (z.t 0) (z.t 1) (z.t 2) (z.n 0) (z.h 0) (z.n 1) (z.a 1) (z.a 2) (z.t 3) (z.h 1) (z.n 2) (z.o 0) (z.o 1) (z.o 2) (z.o 3) (z.o 4) (z.h 2) (z.h 3) (z.h 4) (z.n 3) (z.h 5) (z.n 4) (z.t 4) (z.h 6) (z.n 5)
namespace r2_c
def h' := (skv r2_R).h 5
def tk' := (skv r2_R).n 4
def t' := (skv r2_R).t 4
def tk := (skv r2_R).n 5
noncomputable def r3_k : Σ' (P1 : Tok → Heap → Nat → Addr → Tok → Heap → Nat → Obj → Obj → Obj → Obj → Obj → Heap → Heap → Heap → Nat → Prop), (∀ t' h' tk' Tzz3y5 tzz3y6 hzz3y7 tkzz3y8 ozz3y10 ozz3y12 ozz3y14 ozz3y16 ozz3y18 hzz3y20 hzz3y23 hzz3y25 tk, P1 t' h' tk' Tzz3y5 tzz3y6 hzz3y7 tkzz3y8 ozz3y10 ozz3y12 ozz3y14 ozz3y16 ozz3y18 hzz3y20 hzz3y23 hzz3y25 tk) → r2_k.1 ((skv r2_R).a 0) ((skv r2_R).t 0) ((skv r2_R).t 1) ((skv r2_R).t 2) ((skv r2_R).n 0) ((skv r2_R).h 0) ((skv r2_R).n 1) ((skv r2_R).a 1) ((skv r2_R).a 2) ((skv r2_R).t 3) ((skv r2_R).h 1) ((skv r2_R).n 2) ((skv r2_R).o 0) ((skv r2_R).o 1) ((skv r2_R).o 2) ((skv r2_R).o 3) ((skv r2_R).o 4) ((skv r2_R).h 2) ((skv r2_R).h 3) ((skv r2_R).h 4) ((skv r2_R).n 3) h' tk' t' ((skv r2_R).h 6) tk := ⟨_, by
  intro hP_1 
  intro B F X T hk hdp hun hret hpA hpC hb0 hb2 hb4 hn0 hn2 hn4 hp4 hp5 hp6 hp7 hp1 hp2 hp3 hm0 hm1 hm2 B' X' T' qkzz1y1 ekzz1y2 xzz1y4 xzz1y5 xzz1y6 xzz1y7 xzz1y8 xzz1y9 qkzz2y1 ekzz2y2 mzz1y11 qk ek l1 hTzz2y9 hczz2y11 hczz2y13 hczz2y15 hczz2y17 hczz2y19 Fzz2y21 Nzz2y22 mzz2y24 mzz2y26 mzz2y29 Fzz2y30 Nzz2y31
  iterate 45 (walk_at "#step")
  rename_i qkzz3y1 ekzz3y2 xzz3y3 xzz3y4 Tzz3y5 tzz3y6 hzz3y7 tkzz3y8 hTzz3y9 ozz3y10 hczz3y11 ozz3y12 hczz3y13 ozz3y14 hczz3y15 ozz3y16 hczz3y17 ozz3y18 hczz3y19 hzz3y20 Fzz3y21 Nzz3y22 hzz3y23 mzz3y24 hzz3y25 mzz3y26 Fzz3y27 Nzz3y28
  revert B F X T hk hdp hun hret hpA hpC hb0 hb2 hb4 hn0 hn2 hn4 hp4 hp5 hp6 hp7 hp1 hp2 hp3 hm0 hm1 hm2 B' X' T' qkzz1y1 ekzz1y2 xzz1y4 xzz1y5 xzz1y6 xzz1y7 xzz1y8 xzz1y9 qkzz2y1 ekzz2y2 mzz1y11 qkzz3y1 ekzz3y2 l1 hTzz2y9 hczz2y11 hczz2y13 hczz2y15 hczz2y17 hczz2y19 mzz2y24 mzz2y26 mzz2y29 xzz3y3 xzz3y4 qk ek hTzz3y9 hczz3y11 hczz3y13 hczz3y15 hczz3y17 hczz3y19 Fzz3y21 Nzz3y22 mzz3y24 mzz3y26 Fzz3y27 Nzz3y28
  exact hP_1 t' h' tk' Tzz3y5 tzz3y6 hzz3y7 tkzz3y8 ozz3y10 ozz3y12 ozz3y14 ozz3y16 ozz3y18 hzz3y20 hzz3y23 hzz3y25 tk⟩
noncomputable def r3_R (z : Sk) : Prop := r3_k.1 (z.t 0) (z.h 0) (z.n 0) (z.a 0) (z.t 1) (z.h 1) (z.n 1) (z.o 0) (z.o 1) (z.o 2) (z.o 3) (z.o 4) (z.h 2) (z.h 3) (z.h 4) (z.n 2)
namespace r3_c
theorem r4 : r3_k.1 ((skv r3_R).t 0) ((skv r3_R).h 0) ((skv r3_R).n 0) ((skv r3_R).a 0) ((skv r3_R).t 1) ((skv r3_R).h 1) ((skv r3_R).n 1) ((skv r3_R).o 0) ((skv r3_R).o 1) ((skv r3_R).o 2) ((skv r3_R).o 3) ((skv r3_R).o 4) ((skv r3_R).h 2) ((skv r3_R).h 3) ((skv r3_R).h 4) ((skv r3_R).n 2) := by
  intro B F X T hk hdp hun hret hpA hpC hb0 hb2 hb4 hn0 hn2 hn4 hp4 hp5 hp6 hp7 hp1 hp2 hp3 hm0 hm1 hm2 B' X' T' qkzz1y1 ekzz1y2 xzz1y4 xzz1y5 xzz1y6 xzz1y7 xzz1y8 xzz1y9 qkzz2y1 ekzz2y2 mzz1y11 qkzz3y1 ekzz3y2 l1 hTzz2y9 hczz2y11 hczz2y13 hczz2y15 hczz2y17 hczz2y19 mzz2y24 mzz2y26 mzz2y29 xzz3y3 xzz3y4 qk ek hTzz3y9 hczz3y11 hczz3y13 hczz3y15 hczz3y17 hczz3y19 Fzz3y21 Nzz3y22 mzz3y24 mzz3y26 Fzz3y27 Nzz3y28
  k_steps
  (try dsimp only)
  (with_reducible rename Fr _ _ _ _ => kF)
  (with_reducible rename News _ _ _ _ => kN)
  have h2 := kN _ List.mem_cons_self
  exact hret _ _ _ _ _ _ _ kF.keep h2.2.2 h2.1
end r3_c
theorem r3  : r2_k.1 ((skv r2_R).a 0) ((skv r2_R).t 0) ((skv r2_R).t 1) ((skv r2_R).t 2) ((skv r2_R).n 0) ((skv r2_R).h 0) ((skv r2_R).n 1) ((skv r2_R).a 1) ((skv r2_R).a 2) ((skv r2_R).t 3) ((skv r2_R).h 1) ((skv r2_R).n 2) ((skv r2_R).o 0) ((skv r2_R).o 1) ((skv r2_R).o 2) ((skv r2_R).o 3) ((skv r2_R).o 4) ((skv r2_R).h 2) ((skv r2_R).h 3) ((skv r2_R).h 4) ((skv r2_R).n 3) h' tk' t' ((skv r2_R).h 6) tk :=
  r3_k.2 (fun t' h' tk' Tzz3y5 tzz3y6 hzz3y7 tkzz3y8 ozz3y10 ozz3y12 ozz3y14 ozz3y16 ozz3y18 hzz3y20 hzz3y23 hzz3y25 tk => skva r3_R r3_c.r4 (sk_t t' <| sk_h h' <| sk_n tk' <| sk_a Tzz3y5 <| sk_t tzz3y6 <| sk_h hzz3y7 <| sk_n tkzz3y8 <| sk_o ozz3y10 <| sk_o ozz3y12 <| sk_o ozz3y14 <| sk_o ozz3y16 <| sk_o ozz3y18 <| sk_h hzz3y20 <| sk_h hzz3y23 <| sk_h hzz3y25 <| sk_n tk <| dS)) 
end r2_c
theorem r2  : r1_k.1 ((skv r1_R).n 0) d' ta' tb' tc' h' tk' ((skv r1_R).h 1) tk :=
  r2_k.2 (fun d' ta' tb' tc' n' hzz2y3 tkzz2y4 i' Tzz2y5 tzz2y6 hzz2y7 tkzz2y8 ozz2y10 ozz2y12 ozz2y14 ozz2y16 ozz2y18 hzz2y20 hzz2y23 hzz2y25 tkzz2y27 h' tk' t' hzz2y28 tk => skva r2_R r2_c.r3 (sk_a d' <| sk_t ta' <| sk_t tb' <| sk_t tc' <| sk_n n' <| sk_h hzz2y3 <| sk_n tkzz2y4 <| sk_a i' <| sk_a Tzz2y5 <| sk_t tzz2y6 <| sk_h hzz2y7 <| sk_n tkzz2y8 <| sk_o ozz2y10 <| sk_o ozz2y12 <| sk_o ozz2y14 <| sk_o ozz2y16 <| sk_o ozz2y18 <| sk_h hzz2y20 <| sk_h hzz2y23 <| sk_h hzz2y25 <| sk_n tkzz2y27 <| sk_h h' <| sk_n tk' <| sk_t t' <| sk_h hzz2y28 <| sk_n tk <| dS)) 
end r1_c
theorem r1  : lhls_spec_k.1 ((skv lhls_spec_R).w 0) ((skv lhls_spec_R).i 0) ((skv lhls_spec_R).i 1) ((skv lhls_spec_R).i 2) ((skv lhls_spec_R).i 3) ((skv lhls_spec_R).t 0) ((skv lhls_spec_R).t 1) ((skv lhls_spec_R).t 2) ((skv lhls_spec_R).t 3) ((skv lhls_spec_R).em 0) ((skv lhls_spec_R).m 0) ((skv lhls_spec_R).m 1) ((skv lhls_spec_R).n 0) ((skv lhls_spec_R).n 1) ((skv lhls_spec_R).oc 0) ((skv lhls_spec_R).x 0) ((skv lhls_spec_R).sc 0) ((skv lhls_spec_R).a 0) ((skv lhls_spec_R).v 0) ((skv lhls_spec_R).sa 0) ((skv lhls_spec_R).le 0) ((skv lhls_spec_R).ar 0) ((skv lhls_spec_R).h 0) ((skv lhls_spec_R).h 1) ((skv lhls_spec_R).a 1) ((skv lhls_spec_R).m 2) ((skv lhls_spec_R).s 0) ((skv lhls_spec_R).q 0) ((skv lhls_spec_R).q 1) ((skv lhls_spec_R).a 2) h' :=
  r1_k.2 (fun tkzz1y3 d' ta' tb' tc' h' tk' hzz1y10 tk => skva r1_R r1_c.r2 (sk_n tkzz1y3 <| sk_a d' <| sk_t ta' <| sk_t tb' <| sk_t tc' <| sk_h h' <| sk_n tk' <| sk_h hzz1y10 <| sk_n tk <| dS)) 
end lhls_spec_c
theorem lhls_spec (w : World) (p t sh lt : Int) (t1 t2 t3 t4 : Tok) : CtrK w 12 120 207 [.int p t1, .int t t2, .int sh t3, .int lt t4] (fun _ => HlsOk p t sh lt)
      (RetL3F (hlsX p t sh lt) (hlsY p t sh lt) (hlsZ p t sh lt)) :=
  lhls_spec_k.2 (fun w p t sh lt t1 t2 t3 t4 mean mg mb dp un gd cn cs a ccd cl outer A₀ base h₀ L m s Q E L' h' => skva lhls_spec_R lhls_spec_c.r1 (sk_w w <| sk_i p <| sk_i t <| sk_i sh <| sk_i lt <| sk_t t1 <| sk_t t2 <| sk_t t3 <| sk_t t4 <| sk_em mean <| sk_m mg <| sk_m mb <| sk_n dp <| sk_n un <| sk_oc gd <| sk_x cn <| sk_sc cs <| sk_a a <| sk_v ccd <| sk_sa cl <| sk_le outer <| sk_ar A₀ <| sk_h base <| sk_h h₀ <| sk_a L <| sk_m m <| sk_s s <| sk_q Q <| sk_q E <| sk_a L' <| sk_h h' <| dS)) w p t sh lt t1 t2 t3 t4
end Mine.Internal
end
section
local macro_rules | `(tactic| omega) => `(tactic| lia)
noncomputable section -- FlG
open PySem PySem.Float64
set_option maxRecDepth 100000
set_option maxHeartbeats 4000000
theorem Mine.Internal.kwR_FlG : True := by
  k_with "#r0" => (with_reducible first | assumption | exact Mine.Internal.bLit | exact Mine.Internal.bE0 | exact Mine.Internal.bRfl)
  k_with "#r1" => (with_reducible first | assumption | exact Mine.Internal.bLit | exact Mine.Internal.bAdd (by walk_at "#r0") (by walk_at "#r0") | exact Mine.Internal.bSub (by walk_at "#r0") (by walk_at "#r0") | exact Mine.Internal.bMul (by walk_at "#r0") (by walk_at "#r0") | exact Mine.Internal.bNeg (by walk_at "#r0") | exact Mine.Internal.bAp (x := Mine.Internal.rv _) (by assumption) (by assumption) (by walk_at "#r0") | walk_at "#r0")
  k_with "#r2" => (with_reducible first | assumption | exact Mine.Internal.bLit | exact Mine.Internal.bAdd (by walk_at "#r1") (by walk_at "#r1") | exact Mine.Internal.bSub (by walk_at "#r1") (by walk_at "#r1") | exact Mine.Internal.bMul (by walk_at "#r1") (by walk_at "#r1") | exact Mine.Internal.bNeg (by walk_at "#r1") | exact Mine.Internal.bAp (x := Mine.Internal.rv _) (by assumption) (by assumption) (by walk_at "#r1") | walk_at "#r0")
  k_with "#r3" => (with_reducible first | assumption | exact Mine.Internal.bLit | exact Mine.Internal.bAdd (by walk_at "#r2") (by walk_at "#r2") | exact Mine.Internal.bSub (by walk_at "#r2") (by walk_at "#r2") | exact Mine.Internal.bMul (by walk_at "#r2") (by walk_at "#r2") | exact Mine.Internal.bNeg (by walk_at "#r2") | exact Mine.Internal.bAp (x := Mine.Internal.rv _) (by assumption) (by assumption) (by walk_at "#r2") | walk_at "#r0")
  k_with "#r4" => (with_reducible first | assumption | exact Mine.Internal.bLit | exact Mine.Internal.bAdd (by walk_at "#r3") (by walk_at "#r3") | exact Mine.Internal.bSub (by walk_at "#r3") (by walk_at "#r3") | exact Mine.Internal.bMul (by walk_at "#r3") (by walk_at "#r3") | exact Mine.Internal.bNeg (by walk_at "#r3") | exact Mine.Internal.bAp (x := Mine.Internal.rv _) (by assumption) (by assumption) (by walk_at "#r3") | walk_at "#r0")
  k_with "#r5" => (with_reducible first | assumption | exact Mine.Internal.bLit | exact Mine.Internal.bAdd (by walk_at "#r4") (by walk_at "#r4") | exact Mine.Internal.bSub (by walk_at "#r4") (by walk_at "#r4") | exact Mine.Internal.bMul (by walk_at "#r4") (by walk_at "#r4") | exact Mine.Internal.bNeg (by walk_at "#r4") | exact Mine.Internal.bAp (x := Mine.Internal.rv _) (by assumption) (by assumption) (by walk_at "#r4") | walk_at "#r0")
  k_with "#rng" => (first | exact Mine.Internal.inRng (by walk_at "#r5") (by decide +kernel) (by decide +kernel) | (constructor <;> grind -abstractProof))
  trivial
namespace Mine.Internal
theorem rampA {m1 m2 x : UInt64} (h1 : Fin m1) (h2 : Fin m2) (hx : Fin x) (b1 : -2 ≤ rv m1 ∧ rv m1 ≤ 2) (b2 : -2 ≤ rv m2 ∧ rv m2 ≤ 2) (bx : -2 ≤ rv x ∧ rv x ≤ 2) :
    Ap (add m1 (mul (mul (sub m2 m1) x) 4618441417868443648)) (rv m1 + (rv m2 - rv m1) * rv x * 6) (20 * e0) := by
  have he : e0 = 1 / 2199023255552 := rfl
  have hs := subR h2 h1 (by walk_at "#rng")
  generalize sub m2 m1 = d at *
  obtain ⟨fs, s1, s2⟩ := hs
  have bd : -5 ≤ rv d ∧ rv d ≤ 5 := (by walk_at "#rng")
  have bm := mulB bd bx
  have hm := mulR fs hx (by walk_at "#rng")
  generalize mul d x = p at *
  obtain ⟨fm, m3, m4⟩ := hm
  have hm6 := mulR fm c6.1 (by rw [c6.2]; walk_at "#rng")
  rw [c6.2] at hm6
  generalize mul p 4618441417868443648 = u at *
  obtain ⟨fu, u1, u2⟩ := hm6
  have ha := addR h1 fu (by walk_at "#rng")
  generalize add m1 u = z at *
  obtain ⟨fz, z1, z2⟩ := ha
  have e1 := mulB (a := rv d - (rv m2 - rv m1)) (A := e0) (by walk_at "#rng") bx
  refine ⟨fz, ?_, ?_⟩ <;> grind -abstractProof
noncomputable def fallY (Y t : Int) : Int := if 2 * Y ≤ t then t - 2 * Y else if 2 * Y ≤ 3 * t then 0 else if 2 * Y ≤ 4 * t then 2 * Y - 3 * t else t
theorem vR {m1 m2 hue : UInt64} {H : Rat} {Z t : Int} (h1 : Fin m1) (h2 : Fin m2) (b1 : -2 ≤ rv m1 ∧ rv m1 ≤ 2) (b2 : -2 ≤ rv m2 ∧ rv m2 ≤ 2) (hh : Ap hue H (4 * e0)) (hH : H * (3 * (t : Rat)) = (Z : Rat)) (t1 : 1 ≤ t) (t2 : t ≤ 60) :
    ∃ n : Int, 0 ≤ Z - 3 * n * t ∧ Z - 3 * n * t ≤ 3 * t ∧ Fin (vF m1 m2 hue) ∧
      rv (vF m1 m2 hue) * (t : Rat) ≤ rv m2 * (t : Rat) - (rv m2 - rv m1) * ((fallY (Z - 3 * n * t) t : Int) : Rat) + 16384 * e0 ∧
      rv m2 * (t : Rat) - (rv m2 - rv m1) * ((fallY (Z - 3 * n * t) t : Int) : Rat) ≤ rv (vF m1 m2 hue) * (t : Rat) + 16384 * e0 := by
  have he : e0 = 1 / 2199023255552 := rfl
  obtain ⟨hf, hh1, hh2⟩ := hh
  obtain ⟨n, ⟨xf, x1, x2⟩, x3, x4⟩ := modR hf
  have hv : vF m1 m2 hue = if (Float64.cmp (divmod hue 4607182418800017408).snd 4595172819793696085 == some Ordering.lt) = true then Float64.add m1 (Float64.mul (Float64.mul (Float64.sub m2 m1) (divmod hue 4607182418800017408).snd) 4618441417868443648)
    else if (Float64.cmp (divmod hue 4607182418800017408).snd 4602678819172646912 == some Ordering.lt) = true then m2
    else if (Float64.cmp (divmod hue 4607182418800017408).snd 4604180019048437077 == some Ordering.lt) = true then Float64.add m1 (Float64.mul (Float64.mul (Float64.sub m2 m1) (Float64.sub 4604180019048437077 (divmod hue 4607182418800017408).snd)) 4618441417868443648)
    else m1 := rfl
  rw [hv]
  generalize (divmod hue 4607182418800017408).snd = x at *
  simp only [lt_iff xf c16.1, lt_iff xf ch.1, lt_iff xf c23.1, c16.2, ch.2, c23.2]
  have T1 : (1 : Rat) ≤ (t : Rat) := castL rfl t1
  have T2 : (t : Rat) ≤ 60 := castR rfl t2
  have bnd_t : (1 : Rat) ≤ (t : Rat) ∧ (t : Rat) ≤ 60 := ⟨T1, T2⟩
  have T0 : (0 : Rat) ≤ (t : Rat) := Rat.le_of_lt (posT T1)
  -- the place, t times three
  have hY : ((Z - 3 * n * t : Int) : Rat) = (H - (n : Rat)) * (3 * (t : Rat)) := by push_cast; grind -abstractProof
  generalize hYd : Z - 3 * n * t = Y at *
  have y1 := Rat.mul_le_mul_of_nonneg_right (show rv x - (H - (n : Rat)) ≤ 6 * e0 by grind -abstractProof) T0
  have y2 := Rat.mul_le_mul_of_nonneg_right (show (H - (n : Rat)) - rv x ≤ 6 * e0 by grind -abstractProof) T0
  have x5 := Rat.mul_le_mul_of_nonneg_right x3 T0
  have x6 := Rat.mul_le_mul_of_nonneg_right x4 T0
  have eT : 6 * e0 * (t : Rat) ≤ 360 * e0 := by grind -abstractProof
  have Yl : rv x * (t : Rat) * 3 ≤ (Y : Rat) + 1080 * e0 := by grind -abstractProof
  have Yu : (Y : Rat) ≤ rv x * (t : Rat) * 3 + 1080 * e0 := by grind -abstractProof
  have Y0 : (-1 : Rat) < (Y : Rat) := by grind -abstractProof
  have Y3 : (Y : Rat) < 3 * (t : Rat) + 1 := by grind -abstractProof
  have i0 : -1 < Y := Rat.intCast_lt_intCast.mp (by rw [show ((-1 : Int) : Rat) = -1 by decide +kernel]; exact Y0)
  have i3 : Y < 3 * t + 1 := by exact_mod_cast Y3
  have Yb : 0 ≤ Z - 3 * n * t ∧ Z - 3 * n * t ≤ 3 * t := by rw [hYd]; exact ⟨Int.add_one_le_of_lt i0, Int.le_of_lt_add_one i3⟩
  have hD := mulB (a := rv m2 - rv m1) (b := rv x * (t : Rat) * 3 - (Y : Rat)) (A := 4) (B := 1080 * e0) (by walk_at "#rng") (by walk_at "#rng")
  by_cases k1 : rv x < 6004799503160661 / 36028797018963968
  · rw [if_pos k1]
    have k2 := Rat.mul_le_mul_of_nonneg_right (Rat.le_of_lt k1) T0
    have j1 : 2 * (Y : Rat) < (t : Rat) + 1 := by grind -abstractProof
    have j2 : 2 * Y < t + 1 := by exact_mod_cast j1
    have hF : fallY Y t = t - 2 * Y := by unfold fallY; rw [if_pos (by omega)]
    obtain ⟨rf, r1, r2⟩ := rampA h1 h2 xf b1 b2 (by walk_at "#rng")
    have r3 := Rat.mul_le_mul_of_nonneg_right r1 T0
    have r4 := Rat.mul_le_mul_of_nonneg_right r2 T0
    have eT2 : 20 * e0 * (t : Rat) ≤ 1200 * e0 := by grind -abstractProof
    refine ⟨n, Yb.1, Yb.2, rf, ?_, ?_⟩ <;> rw [hYd, hF] <;> push_cast <;> grind -abstractProof
  · rw [if_neg k1]
    by_cases k2 : rv x < 1 / 2
    · rw [if_pos k2]
      have l1 := Rat.mul_le_mul_of_nonneg_right (Rat.not_lt.mp k1) T0
      have l2 := Rat.mul_le_mul_of_nonneg_right (Rat.le_of_lt k2) T0
      have j1 : (t : Rat) < 2 * (Y : Rat) + 1 := by grind -abstractProof
      have j2 : 2 * (Y : Rat) < 3 * (t : Rat) + 1 := by grind -abstractProof
      have j3 : t < 2 * Y + 1 := by exact_mod_cast j1
      have j4 : 2 * Y < 3 * t + 1 := by exact_mod_cast j2
      have hF : fallY Y t = 0 := by unfold fallY; split; omega; rw [if_pos (by omega)]
      refine ⟨n, Yb.1, Yb.2, h2, ?_, ?_⟩ <;> rw [hYd, hF] <;> push_cast <;> grind -abstractProof
    · rw [if_neg k2]
      by_cases k3 : rv x < 6004799503160661 / 9007199254740992
      · rw [if_pos k3]
        have l1 := Rat.mul_le_mul_of_nonneg_right (Rat.not_lt.mp k2) T0
        have l2 := Rat.mul_le_mul_of_nonneg_right (Rat.le_of_lt k3) T0
        have j1 : 3 * (t : Rat) < 2 * (Y : Rat) + 1 := by grind -abstractProof
        have j2 : 2 * (Y : Rat) < 4 * (t : Rat) + 1 := by grind -abstractProof
        have j3 : 3 * t < 2 * Y + 1 := by exact_mod_cast j1
        have j4 : 2 * Y < 4 * t + 1 := by exact_mod_cast j2
        have hF : fallY Y t = 2 * Y - 3 * t := by
          unfold fallY
          split
          · omega
          · split
            · omega
            · rw [if_pos (by omega)]
        have hs := subR c23.1 xf (by rw [c23.2]; walk_at "#rng")
        rw [c23.2] at hs
        generalize sub 4604180019048437077 x = y at *
        obtain ⟨yf, s1, s2⟩ := hs
        obtain ⟨rf, r1, r2⟩ := rampA h1 h2 yf b1 b2 (by walk_at "#rng")
        have r3 := Rat.mul_le_mul_of_nonneg_right r1 T0
        have r4 := Rat.mul_le_mul_of_nonneg_right r2 T0
        have eT2 : 20 * e0 * (t : Rat) ≤ 1200 * e0 := by grind -abstractProof
        have s3 := Rat.mul_le_mul_of_nonneg_right s1 T0
        have s4 := Rat.mul_le_mul_of_nonneg_right s2 T0
        have hE := mulB (a := rv m2 - rv m1) (b := rv y * (t : Rat) - (2 / 3 * (t : Rat) - rv x * (t : Rat))) (A := 4) (B := 120 * e0) (by walk_at "#rng") (by walk_at "#rng")
        refine ⟨n, Yb.1, Yb.2, rf, ?_, ?_⟩ <;> rw [hYd, hF] <;> push_cast <;> grind -abstractProof
      · rw [if_neg k3]
        have l1 := Rat.mul_le_mul_of_nonneg_right (Rat.not_lt.mp k3) T0
        have j1 : 4 * (t : Rat) < 2 * (Y : Rat) + 1 := by grind -abstractProof
        have j3 : 4 * t < 2 * Y + 1 := by exact_mod_cast j1
        have hF : fallY Y t = t := by
          unfold fallY
          split
          · omega
          · split
            · omega
            · split
              · omega
              · rfl
        refine ⟨n, Yb.1, Yb.2, h1, ?_, ?_⟩ <;> rw [hYd, hF] <;> grind -abstractProof
end Mine.Internal
end
noncomputable section -- FlH
open PySem PySem.Float64
namespace Mine.Internal
theorem fW0 {W t : Int} (h : W ≤ t) (ht : 1 ≤ t) : min (max (min W (6 * t - W) - t) 0) t = 0 := by
  rw [Int.min_eq_left (show W ≤ 6 * t - W by omega), Int.max_eq_right (by omega)]; exact Int.min_eq_left (by omega)
theorem fW1 {W t : Int} (h : t ≤ W) (h2 : W ≤ 2 * t) (ht : 1 ≤ t) : min (max (min W (6 * t - W) - t) 0) t = W - t := by
  rw [Int.min_eq_left (show W ≤ 6 * t - W by omega), Int.max_eq_left (by omega)]; exact Int.min_eq_left (by omega)
theorem fW2 {W t : Int} (h : 2 * t ≤ W) (h2 : W ≤ 4 * t) (ht : 1 ≤ t) : min (max (min W (6 * t - W) - t) 0) t = t := by
  refine Int.min_eq_right (Int.le_trans ?_ (Int.le_max_left _ _))
  exact Int.le_sub_right_of_add_le (Int.le_min.mpr ⟨by omega, by omega⟩)
theorem fW3 {W t : Int} (h : 4 * t ≤ W) (h2 : W ≤ 5 * t) (ht : 1 ≤ t) : min (max (min W (6 * t - W) - t) 0) t = 6 * t - W - t := by
  rw [Int.min_eq_right (show 6 * t - W ≤ W by omega), Int.max_eq_left (by omega)]; exact Int.min_eq_left (by omega)
theorem fW4 {W t : Int} (h : 5 * t ≤ W) (ht : 1 ≤ t) : min (max (min W (6 * t - W) - t) 0) t = 0 := by
  rw [Int.min_eq_right (show 6 * t - W ≤ W by omega), Int.max_eq_right (by omega)]; exact Int.min_eq_left (by omega)
theorem fallI_Y {p t c Y n : Int} (ht : 1 ≤ t) (h : 6 * p - c * t = 2 * Y - 2 * t + 6 * t * n) (h0 : 0 ≤ Y) (h3 : Y ≤ 3 * t) : fallI p t c = fallY Y t := by
  unfold fallI
  rw [Int.fmod_eq_emod_of_nonneg _ (by omega), h, Int.add_mul_emod_self_left]
  by_cases c1 : 2 * Y < 2 * t
  · rw [← Int.add_mul_emod_self_left (2 * Y - 2 * t) (6 * t) 1, Int.emod_eq_of_lt (by omega) (by omega)]
    by_cases c2 : 2 * Y ≤ t
    · rw [fW3 (by omega) (by omega) ht]; unfold fallY; rw [if_pos c2]; omega
    · rw [fW4 (by omega) ht]; unfold fallY; rw [if_neg c2, if_pos (by omega)]
  · rw [Int.emod_eq_of_lt (by omega) (by omega)]
    by_cases c3 : 2 * Y ≤ 3 * t
    · rw [fW0 (by omega) ht]; unfold fallY; rw [if_neg (by omega), if_pos c3]
    · by_cases c4 : 2 * Y ≤ 4 * t
      · rw [fW1 (by omega) (by omega) ht]; unfold fallY; rw [if_neg (by omega), if_neg c3, if_pos c4]; omega
      · rw [fW2 (by omega) (by omega) ht]; unfold fallY; rw [if_neg (by omega), if_neg c3, if_neg c4]
theorem divI_Ap (i : Int) (d : Int) (hd : 1 ≤ d) (hb : -(4096 * d) ≤ i ∧ i ≤ 4096 * d) : Ap (divI i d) ((i : Rat) / (d : Rat)) e0 := by
  obtain ⟨k, rfl⟩ : ∃ k : Nat, d = k := ⟨d.toNat, by omega⟩
  have := divIR i k (by omega) hb
  have e : divI i (k : Int) = ofFrac (decide (i < 0) != false) i.natAbs k := by
    unfold divI
    rw [Int.natAbs_natCast, show decide ((k : Int) < 0) = false from decide_eq_false (by omega)]
  rw [e]
  have e2 : (((k : Nat) : Int) : Rat) = (k : Rat) := Rat.intCast_natCast k
  rw [e2]
  exact this
theorem div_mul {i d : Int} (hd : 1 ≤ d) : (i : Rat) / (d : Rat) * (d : Rat) = (i : Rat) := by
  apply Rat.div_mul_cancel
  intro h
  have := Rat.intCast_eq_zero_iff.mp h
  omega
theorem m12R {sh lt : Int} (h1 : 1 ≤ sh) (h2 : sh ≤ 8) (h3 : 1 ≤ lt) (h4 : lt ≤ 7) :
    Ap (hlsM2 (divI lt 8) (divI sh 8)) (((8 * lt + sh * min lt (8 - lt) : Int) : Rat) / 64) (16 * e0) ∧ Ap (hlsM1 (divI lt 8) (divI sh 8)) (((8 * lt - sh * min lt (8 - lt) : Int) : Rat) / 64) (32 * e0) := by
  have he : e0 = 1 / 2199023255552 := rfl
  have hl := divI_Ap lt 8 (by decide) (by omega)
  have hs := divI_Ap sh 8 (by decide) (by omega)
  have hl8 : (lt : Rat) / ((8 : Int) : Rat) = (lt : Rat) / 8 := rfl
  have hs8 : (sh : Rat) / ((8 : Int) : Rat) = (sh : Rat) / 8 := rfl
  rw [hl8] at hl
  rw [hs8] at hs
  have r1 : (1 : Rat) ≤ (sh : Rat) := castL rfl h1
  have r2 : (sh : Rat) ≤ 8 := castR rfl h2
  have bnd_sh : (1 : Rat) ≤ (sh : Rat) ∧ (sh : Rat) ≤ 8 := ⟨r1, r2⟩
  have r3 : (1 : Rat) ≤ (lt : Rat) := castL rfl h3
  have r4 : (lt : Rat) ≤ 7 := castR rfl h4
  have bnd_lt : (1 : Rat) ≤ (lt : Rat) ∧ (lt : Rat) ≤ 7 := ⟨r3, r4⟩
  unfold hlsM1
  have hM2 : Ap (hlsM2 (divI lt 8) (divI sh 8)) (((8 * lt + sh * min lt (8 - lt) : Int) : Rat) / 64) (16 * e0) := by
    unfold hlsM2
    generalize divI lt 8 = l at *
    generalize divI sh 8 = s at *
    obtain ⟨fl, l1, l2⟩ := hl
    obtain ⟨fs, s1, s2⟩ := hs
    have hle : (leB l 4602678819172646912 = true) ↔ rv l ≤ 1 / 2 := by
      unfold leB
      rw [Bool.or_eq_true, lt_iff fl ch.1, eq_iff fl ch.1, ch.2]
      constructor
      · rintro (h | h)
        · exact Rat.le_of_lt h
        · rw [h]; exact Rat.le_refl
      · intro h; exact (Rat.le_iff_lt_or_eq).mp h
    have hls := mulB (a := rv l - (lt : Rat) / 8) (A := e0) (b := rv s) (B := 2) (by first | exact subB (by assumption) (by assumption) | (walk_at "#rng")) (by walk_at "#rng")
    have hls2 := mulB (a := rv s - (sh : Rat) / 8) (A := e0) (b := (lt : Rat) / 8) (B := 1) (by first | exact subB (by assumption) (by assumption) | (walk_at "#rng")) (by walk_at "#rng")
    have hlb := mulB (a := rv l) (A := 1) (b := rv s) (B := 2) (by walk_at "#rng") (by walk_at "#rng")
    by_cases hc : leB l 4602678819172646912 = true
    · rw [if_pos hc]
      have hc2 := hle.mp hc
      have j1 : (lt : Rat) < 5 := by grind -abstractProof
      have j2 : lt < 5 := by exact_mod_cast j1
      have hmin : min lt (8 - lt) = lt := by omega
      rw [hmin]
      have ha := addR one_rv.1 fs (by rw [one_rv.2]; walk_at "#rng")
      rw [one_rv.2] at ha
      generalize add 4607182418800017408 s = u at *
      obtain ⟨fu, u1, u2⟩ := ha
      have hb := mulB (a := rv l) (A := 1) (b := rv u) (B := 3) (by walk_at "#rng") (by walk_at "#rng")
      have hm := mulR fl fu (by walk_at "#rng")
      generalize mul l u = v at *
      obtain ⟨fv, v1, v2⟩ := hm
      have hd := mulB (a := rv l) (A := 1) (b := rv u - (1 + rv s)) (B := e0) (by walk_at "#rng") (by walk_at "#rng")
      refine ⟨fv, ?_, ?_⟩ <;> push_cast <;> grind -abstractProof
    · rw [if_neg hc]
      have hc2 : ¬ rv l ≤ 1 / 2 := fun h => hc (hle.mpr h)
      have j1 : 3 < (lt : Rat) := by grind -abstractProof
      have j2 : 3 < lt := by exact_mod_cast j1
      have hmin : min lt (8 - lt) = 8 - lt := by omega
      rw [hmin]
      have ha := addR fl fs (by walk_at "#rng")
      have hm := mulR fl fs (by walk_at "#rng")
      generalize add l s = u at *
      generalize mul l s = v at *
      obtain ⟨fu, u1, u2⟩ := ha
      obtain ⟨fv, v1, v2⟩ := hm
      have hz := subR fu fv (by walk_at "#rng")
      generalize sub u v = z at *
      obtain ⟨fz, z1, z2⟩ := hz
      refine ⟨fz, ?_, ?_⟩ <;> push_cast <;> grind -abstractProof
  refine ⟨hM2, ?_⟩
  obtain ⟨fm, m1, m2⟩ := hM2
  generalize hlsM2 (divI lt 8) (divI sh 8) = m at *
  generalize divI lt 8 = l at *
  obtain ⟨fl, l1, l2⟩ := hl
  have hb : 0 ≤ sh * min lt (8 - lt) ∧ sh * min lt (8 - lt) ≤ 32 := by
    have hm0 : 1 ≤ min lt (8 - lt) ∧ min lt (8 - lt) ≤ 4 := by omega
    generalize min lt (8 - lt) = q at *
    exact ⟨Int.mul_nonneg (by omega) (by omega), Int.le_trans (Int.mul_le_mul h2 hm0.2 (by omega) (by omega)) (by decide)⟩
  generalize sh * min lt (8 - lt) = K at *
  have k1 : (0 : Rat) ≤ (K : Rat) := castL rfl hb.1
  have k2 : (K : Rat) ≤ 32 := castR rfl hb.2
  have bnd_K : (0 : Rat) ≤ (K : Rat) ∧ (K : Rat) ≤ 32 := ⟨k1, k2⟩
  push_cast at m1 m2 ⊢
  have hu := mulR c2.1 fl (by rw [c2.2]; walk_at "#rng")
  rw [c2.2] at hu
  generalize mul 4611686018427387904 l = u at *
  obtain ⟨fu, u1, u2⟩ := hu
  have hz := subR fu fm (by walk_at "#rng")
  generalize sub u m = z at *
  obtain ⟨fz, z1, z2⟩ := hz
  refine ⟨fz, ?_, ?_⟩ <;> grind -abstractProof
end Mine.Internal
end
noncomputable section -- FlI
open PySem PySem.Float64
namespace Mine.Internal
theorem absR {x : UInt64} (hx : Fin x) : Fin (Float64.abs x) ∧ (rv (Float64.abs x) = rv x ∨ rv (Float64.abs x) = - rv x) := by
  obtain ⟨a, m, e, hx⟩ := hx
  have hN := x.toNat_lt
  have hnan : isNaN x = false := by unfold isNaN; rw [hx]
  have ht : x.toNat % 2 ^ 63 < infMag := by
    have hi : infMag = 2047 * 2 ^ 52 := rfl
    unfold decode at hx
    simp only at hx
    split at hx
    · split at hx <;> cases hx
    · rename_i h
      have : x.toNat / 2 ^ 52 % 2048 ≠ 2047 := by simpa using h
      omega
  have hxp : ∃ b, x = pack b (x.toNat % 2 ^ 63) := by
    refine ⟨decide (2 ^ 63 ≤ x.toNat), ?_⟩
    apply UInt64.toNat_inj.mp
    rw [pack_toNat _ (Nat.mod_lt _ (by decide))]
    by_cases h : 2 ^ 63 ≤ x.toNat
    · simp only [h, decide_true, if_true]; omega
    · simp only [h, decide_false]; simp; omega
  have habs : Float64.abs x = pack false (x.toNat % 2 ^ 63) := by
    unfold Float64.abs; rw [hnan]; rfl
  obtain ⟨b, hb⟩ := hxp
  obtain ⟨m', e', hd, _⟩ := decode_pack false ht
  rw [habs]
  generalize x.toNat % 2 ^ 63 = T at *
  refine ⟨⟨_, _, _, hd⟩, ?_⟩
  unfold rv
  rw [hb, val_pack _ ht, val_pack _ ht]
  cases b
  · left; rfl
  · right
    simp only [sgn, Bool.false_eq_true, if_false, if_true, Rat.intCast_neg, Rat.div_def, Rat.neg_mul, Rat.neg_neg]
noncomputable def PartOk (v : UInt64) (t due : Int) : Prop := Fin v ∧ rv v * (t : Rat) * 64 ≤ (due : Rat) + 2097152 * e0 ∧ (due : Rat) ≤ rv v * (t : Rat) * 64 + 2097152 * e0
theorem part_range {v : UInt64} {t due : Int} (h : PartOk v t due) (t1 : 1 ≤ t) (d1 : 0 ≤ due) (d2 : due ≤ 64 * t) : -e0 * 32768 ≤ rv v ∧ rv v ≤ 1 + 32768 * e0 := by
  have he : e0 = 1 / 2199023255552 := rfl
  have T1 : (1 : Rat) ≤ (t : Rat) := castL rfl t1
  have D1 : (0 : Rat) ≤ (due : Rat) := castL rfl d1
  have D2 : (due : Rat) ≤ 64 * (t : Rat) := by exact_mod_cast Rat.intCast_le_intCast.mpr d2
  obtain ⟨_, h1, h2⟩ := h
  have T0 : (0 : Rat) < (t : Rat) := posT T1
  constructor
  · apply Rat.le_of_mul_le_mul_right _ T0; grind -abstractProof
  · apply Rat.le_of_mul_le_mul_right _ T0; grind -abstractProof
theorem near_part {v : UInt64} {t due : Int} (h : PartOk v t due) (t1 : 1 ≤ t) (t2 : t ≤ 60) (d1 : 0 ≤ due) (d2 : due ≤ 64 * t) : nearB (up64 v t) due = true := by
  have he : e0 = 1 / 2199023255552 := rfl
  have hr := part_range h t1 d1 d2
  have T1 : (1 : Rat) ≤ (t : Rat) := castL rfl t1
  have T2 : (t : Rat) ≤ 60 := castR rfl t2
  have bnd_t : (1 : Rat) ≤ (t : Rat) ∧ (t : Rat) ≤ 60 := ⟨T1, T2⟩
  have D1 : (0 : Rat) ≤ (due : Rat) := castL rfl d1
  have D2 : (due : Rat) ≤ 64 * (t : Rat) := by exact_mod_cast Rat.intCast_le_intCast.mpr d2
  obtain ⟨hf, h1, h2⟩ := h
  have i64 := intR 64 (by decide)
  have it := intR t (by omega)
  have id := intR due (by omega)
  have e64 : ((64 : Int) : Rat) = 64 := rfl
  rw [e64] at i64
  unfold nearB
  show (Float64.cmp (Float64.abs (Float64.sub (Float64.mul (Float64.mul v (Float64.ofInt 64)) (Float64.ofInt t)) (Float64.ofInt due))) 4562254508917369340 == some Ordering.lt) = true
  generalize ofInt 64 = a at *
  generalize ofInt t = b at *
  generalize ofInt due = d at *
  obtain ⟨fa, a1, a2⟩ := i64
  obtain ⟨fb, b1, b2⟩ := it
  obtain ⟨fd, dd1, dd2⟩ := id
  have p1 := mulB (a := rv v) (A := 2) (b := rv a) (B := 65) (by walk_at "#rng") (by walk_at "#rng")
  have m1 := mulR hf fa (by walk_at "#rng")
  have q1 := mulB (a := rv v) (A := 2) (b := rv a - 64) (B := e0) (by walk_at "#rng") (by walk_at "#rng")
  generalize mul v a = u at *
  obtain ⟨fu, u1, u2⟩ := m1
  have p2 : -4000 ≤ rv u * rv b ∧ rv u * rv b ≤ 4000 := by
    have := mulB (a := rv u) (A := 66) (b := rv b) (B := 60 + e0) (by walk_at "#rng") (by walk_at "#rng")
    walk_at "#rng"
  have m2 := mulR fu fb (by walk_at "#rng")
  have q2 := mulB (a := rv u) (A := 133) (b := rv b - (t : Rat)) (B := e0) (by walk_at "#rng") (by walk_at "#rng")
  have q3 := mulB (a := rv u - rv v * 64) (A := 4 * e0) (b := (t : Rat)) (B := 60) (by walk_at "#rng") (by first | exact t60 (by assumption) (by assumption) | (walk_at "#rng"))
  generalize mul u b = w at *
  obtain ⟨fw, w1, w2⟩ := m2
  have m3 := subR fw fd (by walk_at "#rng")
  generalize sub w d = z at *
  obtain ⟨fz, z1, z2⟩ := m3
  have ha := absR fz
  rw [lt_iff ha.1 cmil.1, cmil.2]
  rcases ha.2 with h | h <;> rw [h] <;> grind -abstractProof
end Mine.Internal
end
noncomputable section -- FlJ
open PySem PySem.Float64
namespace Mine.Internal
theorem fall_range {p t c : Int} (ht : 1 ≤ t) : 0 ≤ fallI p t c ∧ fallI p t c ≤ t := by
  unfold fallI; omega
theorem hls_part {p t c Z sh lt : Int} {hue : UInt64} {H : Rat} (h1 : 1 ≤ sh) (h2 : sh ≤ 8) (h3 : 1 ≤ lt) (h4 : lt ≤ 7) (t1 : 1 ≤ t) (t2 : t ≤ 60) (hh : Ap hue H (4 * e0)) (hH : H * (3 * (t : Rat)) = (Z : Rat)) (hZ : 6 * p - c * t = 2 * Z - 2 * t) :
    PartOk (vF (hlsM1 (divI lt 8) (divI sh 8)) (hlsM2 (divI lt 8) (divI sh 8)) hue) t (hlsDue p t sh lt c) ∧ 0 ≤ hlsDue p t sh lt c ∧ hlsDue p t sh lt c ≤ 64 * t := by
  have he : e0 = 1 / 2199023255552 := rfl
  obtain ⟨⟨f2, m3, m4⟩, ⟨f1, m1, m2⟩⟩ := m12R h1 h2 h3 h4
  have hfr := fall_range (p := p) (c := c) t1
  have hdue : hlsDue p t sh lt c = 8 * lt * t + sh * min lt (8 - lt) * (t - 2 * fallI p t c) := rfl
  rw [hdue]
  have hK : 0 ≤ sh * min lt (8 - lt) ∧ sh * min lt (8 - lt) ≤ 8 * lt ∧ sh * min lt (8 - lt) ≤ 64 - 8 * lt := ⟨Int.le_trans (by decide) (minK h1 h2 h3 h4).1, (minK h1 h2 h3 h4).2.2⟩
  generalize hlsM1 (divI lt 8) (divI sh 8) = a at *
  generalize hlsM2 (divI lt 8) (divI sh 8) = b at *
  generalize sh * min lt (8 - lt) = K at *
  have K0 : (0 : Rat) ≤ (K : Rat) := castL rfl hK.1
  have K1 : (K : Rat) ≤ 8 * (lt : Rat) := by exact_mod_cast Rat.intCast_le_intCast.mpr hK.2.1
  have K2 : (K : Rat) ≤ 64 - 8 * (lt : Rat) := by exact_mod_cast Rat.intCast_le_intCast.mpr hK.2.2
  push_cast at m1 m2 m3 m4
  obtain ⟨n, y0, y3, fv, v1, v2⟩ := vR f1 f2 (by walk_at "#rng") (by walk_at "#rng") hh hH t1 t2
  have hF := fallI_Y (p := p) (c := c) (Y := Z - 3 * n * t) (n := n) t1 (by grind -abstractProof) y0 y3
  rw [hF] at hfr ⊢
  generalize fallY (Z - 3 * n * t) t = F at *
  have T1 : (1 : Rat) ≤ (t : Rat) := castL rfl t1
  have T2 : (t : Rat) ≤ 60 := castR rfl t2
  have bnd_t : (1 : Rat) ≤ (t : Rat) ∧ (t : Rat) ≤ 60 := ⟨T1, T2⟩
  have F1 : (0 : Rat) ≤ (F : Rat) := castL rfl hfr.1
  have F2 : (F : Rat) ≤ (t : Rat) := Rat.intCast_le_intCast.mpr hfr.2
  have q1 := mulB (a := rv b - (8 * (lt : Rat) + (K : Rat)) / 64) (A := 16 * e0) (b := (t : Rat)) (B := 60) (by walk_at "#rng") (by first | exact t60 (by assumption) (by assumption) | (walk_at "#rng"))
  have q2 := mulB (a := (rv b - rv a) - (K : Rat) / 32) (A := 48 * e0) (b := (F : Rat)) (B := 60) (by walk_at "#rng") (by walk_at "#rng")
  refine ⟨⟨fv, ?_, ?_⟩, ?_, ?_⟩
  · push_cast; grind -abstractProof
  · push_cast; grind -abstractProof
  · have := Int.mul_nonneg hK.1 (show 0 ≤ t - F by omega)
    have h8 := Int.mul_nonneg (show 0 ≤ 8 * lt - K by omega) (show 0 ≤ t by omega)
    grind -abstractProof
  · have := Int.mul_nonneg hK.1 (show 0 ≤ F by omega)
    have h8 := Int.mul_nonneg (show 0 ≤ 64 - 8 * lt - K by omega) (show 0 ≤ t by omega)
    grind -abstractProof
theorem hls_all {p t sh lt : Int} (h1 : 1 ≤ sh) (h2 : sh ≤ 8) (h3 : 1 ≤ lt) (h4 : lt ≤ 7) (t1 : 1 ≤ t) (t2 : t ≤ 60) (p1 : -200 ≤ p) (p2 : p ≤ 200) :
    (PartOk (hlsX p t sh lt) t (hlsDue p t sh lt 0) ∧ 0 ≤ hlsDue p t sh lt 0 ∧ hlsDue p t sh lt 0 ≤ 64 * t) ∧
    (PartOk (hlsY p t sh lt) t (hlsDue p t sh lt 2) ∧ 0 ≤ hlsDue p t sh lt 2 ∧ hlsDue p t sh lt 2 ≤ 64 * t) ∧
    (PartOk (hlsZ p t sh lt) t (hlsDue p t sh lt 4) ∧ 0 ≤ hlsDue p t sh lt 4 ∧ hlsDue p t sh lt 4 ≤ 64 * t) := by
  have he : e0 = 1 / 2199023255552 := rfl
  have hd := divI_Ap p t t1 (by omega)
  have hq := div_mul (i := p) t1
  have T1 : (1 : Rat) ≤ (t : Rat) := castL rfl t1
  have T2 : (t : Rat) ≤ 60 := castR rfl t2
  have bnd_t : (1 : Rat) ≤ (t : Rat) ∧ (t : Rat) ≤ 60 := ⟨T1, T2⟩
  have P1 : (-200 : Rat) ≤ (p : Rat) := by have := Rat.intCast_le_intCast.mpr p1; rwa [show ((-200 : Int) : Rat) = -200 by decide +kernel] at this
  have P2 : (p : Rat) ≤ 200 := by have := Rat.intCast_le_intCast.mpr p2; rwa [show ((200 : Int) : Rat) = 200 by decide +kernel] at this
  have q1 : -200 ≤ (p : Rat) / (t : Rat) ∧ (p : Rat) / (t : Rat) ≤ 200 := by
    constructor
    · apply Rat.le_of_mul_le_mul_right _ (show (0 : Rat) < (t : Rat) by grind -abstractProof); grind -abstractProof
    · apply Rat.le_of_mul_le_mul_right _ (show (0 : Rat) < (t : Rat) by grind -abstractProof); grind -abstractProof
  refine ⟨?_, ?_, ?_⟩
  · refine hls_part (Z := 3 * p + t) (H := (p : Rat) / (t : Rat) + 1 / 3) h1 h2 h3 h4 t1 t2 ?_ ?_ (by omega)
    · obtain ⟨f, d1, d2⟩ := hd
      have ha := addR f c13.1 (by rw [c13.2]; walk_at "#rng")
      rw [c13.2] at ha
      obtain ⟨f2, a1, a2⟩ := ha
      exact ⟨f2, by grind -abstractProof, by grind -abstractProof⟩
    · push_cast; grind -abstractProof
  · refine hls_part (Z := 3 * p) (H := (p : Rat) / (t : Rat)) h1 h2 h3 h4 t1 t2 (hd.mono (by grind -abstractProof)) ?_ (by omega)
    push_cast; grind -abstractProof
  · refine hls_part (Z := 3 * p - t) (H := (p : Rat) / (t : Rat) - 1 / 3) h1 h2 h3 h4 t1 t2 ?_ ?_ (by omega)
    · obtain ⟨f, d1, d2⟩ := hd
      have ha := subR f c13.1 (by rw [c13.2]; walk_at "#rng")
      rw [c13.2] at ha
      obtain ⟨f2, a1, a2⟩ := ha
      exact ⟨f2, by grind -abstractProof, by grind -abstractProof⟩
    · push_cast; grind -abstractProof
theorem share_ne {sh : Int} (h1 : 1 ≤ sh) (h2 : sh ≤ 8) : (Float64.cmp (divI sh 8) 0 == some Ordering.eq) = false := by
  have he : e0 = 1 / 2199023255552 := rfl
  obtain ⟨f, d1, d2⟩ := divI_Ap sh 8 (by decide) (by omega)
  have r1 : (1 : Rat) ≤ (sh : Rat) := castL rfl h1
  have hs8 : (sh : Rat) / ((8 : Int) : Rat) = (sh : Rat) / 8 := rfl
  rw [hs8] at d1 d2
  cases h : (Float64.cmp (divI sh 8) 0 == some Ordering.eq)
  · rfl
  · have := (eq_iff f c0.1).mp h
    rw [c0.2] at this
    grind -abstractProof
theorem hls_ok {p t sh lt : Int} (h1 : 1 ≤ sh) (h2 : sh ≤ 8) (h3 : 1 ≤ lt) (h4 : lt ≤ 7) (t1 : 1 ≤ t) (t2 : t ≤ 60) (p1 : -200 ≤ p) (p2 : p ≤ 200) : HlsOk p t sh lt := by
  obtain ⟨⟨x1, x2, x3⟩, ⟨y1, y2, y3⟩, ⟨z1, z2, z3⟩⟩ := hls_all h1 h2 h3 h4 t1 t2 p1 p2
  exact ⟨by omega, by omega, share_ne h1 h2, by omega, by omega, by omega, near_part x1 t1 t2 x2 x3, near_part y1 t1 t2 y2 y3, near_part z1 t1 t2 z2 z3⟩
end Mine.Internal
end
noncomputable section -- FlK
open PySem PySem.Float64
namespace Mine.Internal
noncomputable def fallE (e A t : Int) : Int := if e = 0 then 0 else if e = 1 then A else if e = 2 then t else if e = 3 then t else if e = 4 then t - A else 0
theorem fallI_E {p t c e A n : Int} (ht : 1 ≤ t) (h : 6 * p - c * t = A + e * t + 6 * t * n) (h0 : 0 ≤ A) (h1 : A ≤ t) (he : e = 0 ∨ e = 1 ∨ e = 2 ∨ e = 3 ∨ e = 4 ∨ e = 5) : fallI p t c = fallE e A t := by
  have hE : min (max (min (A + e * t) (6 * t - (A + e * t)) - t) 0) t = fallE e A t := by
    rcases he with rfl | rfl | rfl | rfl | rfl | rfl
    · exact fW0 (by omega) ht
    · exact (fW1 (by omega) (by omega) ht).trans (by unfold fallE; simp only [if_true, if_false, Int.reduceEq]; omega)
    · exact fW2 (by omega) (by omega) ht
    · exact fW2 (by omega) (by omega) ht
    · exact (fW3 (by omega) (by omega) ht).trans (by unfold fallE; simp only [if_true, if_false, Int.reduceEq]; omega)
    · exact fW4 (by omega) ht
  have he5 : 0 ≤ e ∧ e ≤ 5 := by rcases he with rfl | rfl | rfl | rfl | rfl | rfl <;> decide
  have ht0 := Int.le_trans (by decide : (0 : Int) ≤ 1) ht
  have hb1 := Int.mul_le_mul_of_nonneg_right he5.2 ht0
  have hb : 0 ≤ A + e * t := Int.add_nonneg h0 (Int.mul_nonneg he5.1 ht0)
  unfold fallI
  rw [Int.fmod_eq_emod_of_nonneg _ (by omega), h, Int.add_mul_emod_self_left]
  by_cases hh : A + e * t = 6 * t
  · rw [← hE, hh, Int.emod_self, fW0 (by omega) ht, fW4 (by omega) ht]
  · rw [Int.emod_eq_of_lt hb (by omega)]; exact hE
theorem partG {v x : UInt64} {lv sh G t : Int} (hv : Ap v ((lv : Rat) / 8) e0) (l1 : 1 ≤ lv) (l2 : lv ≤ 8) (h1 : 1 ≤ sh) (h2 : sh ≤ 8) (t1 : 1 ≤ t) (t2 : t ≤ 60) (hf : Fin x) (g0 : 0 ≤ G) (g1 : G ≤ t)
    (b1 : rv x * (t : Rat) * 8 ≤ (sh : Rat) * (G : Rat) + 8192 * e0) (b2 : (sh : Rat) * (G : Rat) ≤ rv x * (t : Rat) * 8 + 8192 * e0) : PartOk (Float64.mul v (Float64.sub 4607182418800017408 x)) t (lv * (8 * t - sh * G)) ∧ 0 ≤ lv * (8 * t - sh * G) ∧ lv * (8 * t - sh * G) ≤ 64 * t := by
  have he : e0 = 1 / 2199023255552 := rfl
  have T1 : (1 : Rat) ≤ (t : Rat) := castL rfl t1
  have T2 : (t : Rat) ≤ 60 := castR rfl t2
  have bnd_t : (1 : Rat) ≤ (t : Rat) ∧ (t : Rat) ≤ 60 := ⟨T1, T2⟩
  have L1 : (1 : Rat) ≤ (lv : Rat) := castL rfl l1
  have L2 : (lv : Rat) ≤ 8 := castR rfl l2
  have bnd_lv : (1 : Rat) ≤ (lv : Rat) ∧ (lv : Rat) ≤ 8 := ⟨L1, L2⟩
  have hk0 : 0 ≤ sh * G := Int.mul_nonneg (by omega) g0
  have hk1 : sh * G ≤ 8 * t := Int.le_trans (Int.mul_le_mul h2 g1 g0 (by omega)) (Int.le_refl _)
  have K0 : (0 : Rat) ≤ (sh : Rat) * (G : Rat) := by exact_mod_cast Rat.intCast_le_intCast.mpr hk0
  have K1 : (sh : Rat) * (G : Rat) ≤ 8 * (t : Rat) := by exact_mod_cast Rat.intCast_le_intCast.mpr hk1
  have bx : -1 ≤ rv x ∧ rv x ≤ 2 := by
    have T0 : (0 : Rat) < (t : Rat) := posT T1
    constructor
    · apply Rat.le_of_mul_le_mul_right _ T0; grind -abstractProof
    · apply Rat.le_of_mul_le_mul_right _ T0; grind -abstractProof
  obtain ⟨fv, v1, v2⟩ := hv
  have hs := subR one_rv.1 hf (by rw [one_rv.2]; walk_at "#rng")
  rw [one_rv.2] at hs
  generalize sub 4607182418800017408 x = y at *
  obtain ⟨fy, y1, y2⟩ := hs
  have p1 := mulB (a := rv v) (A := 2) (b := rv y) (B := 3) (by walk_at "#rng") (by walk_at "#rng")
  have hm := mulR fv fy (by walk_at "#rng")
  generalize mul v y = z at *
  obtain ⟨fz, z1, z2⟩ := hm
  -- z T 64 against lv (8 T - K)
  generalize hK : (sh : Rat) * (G : Rat) = K at *
  have q0 := mulB (a := rv z - rv v * rv y) (A := e0) (b := (t : Rat)) (B := 60) (by first | exact subB (by assumption) (by assumption) | (walk_at "#rng")) (by first | exact t60 (by assumption) (by assumption) | (walk_at "#rng"))
  have q1 := mulB (a := rv y - (1 - rv x)) (A := e0) (b := (t : Rat)) (B := 60) (by first | exact subB (by assumption) (by assumption) | (walk_at "#rng")) (by first | exact t60 (by assumption) (by assumption) | (walk_at "#rng"))
  have q2 := mulB (a := rv v) (A := 2) (b := rv y * (t : Rat) * 8 - (8 * (t : Rat) - K)) (B := 9000 * e0) (by walk_at "#rng") (by walk_at "#rng")
  have q3 := mulB (a := rv v - (lv : Rat) / 8) (A := e0) (b := 8 * (t : Rat) - K) (B := 480) (by first | exact subB (by assumption) (by assumption) | (walk_at "#rng")) (by walk_at "#rng")
  refine ⟨⟨fz, ?_, ?_⟩, ?_, ?_⟩
  · push_cast; rw [hK]; grind -abstractProof
  · push_cast; rw [hK]; grind -abstractProof
  · exact Int.mul_nonneg (by omega) (by omega)
  · have := Int.mul_le_mul l2 (show 8 * t - sh * G ≤ 8 * t by omega) (by omega) (by decide)
    omega
end Mine.Internal
end
noncomputable section -- FlL
open PySem PySem.Float64
namespace Mine.Internal
structure HsvParts (p t sh lv : Int) : Prop where
  fin : Float64.isFinite (Float64.mul (divI (p + 50 * t) t) 4618441417868443648) = true
  i : (hsvI (divI (p + 50 * t) t)).natAbs < 1000
  r : PartOk (hsvR (divI (p + 50 * t) t) (divI sh 8) (divI lv 8)) t (lv * (8 * t - sh * fallI p t 0)) ∧ 0 ≤ lv * (8 * t - sh * fallI p t 0) ∧ lv * (8 * t - sh * fallI p t 0) ≤ 64 * t
  g : PartOk (hsvG (divI (p + 50 * t) t) (divI sh 8) (divI lv 8)) t (lv * (8 * t - sh * fallI p t 2)) ∧ 0 ≤ lv * (8 * t - sh * fallI p t 2) ∧ lv * (8 * t - sh * fallI p t 2) ≤ 64 * t
  b : PartOk (hsvB (divI (p + 50 * t) t) (divI sh 8) (divI lv 8)) t (lv * (8 * t - sh * fallI p t 4)) ∧ 0 ≤ lv * (8 * t - sh * fallI p t 4) ∧ lv * (8 * t - sh * fallI p t 4) ≤ 64 * t
noncomputable abbrev Dn (x : UInt64) (t due : Int) : Prop := PartOk x t due ∧ 0 ≤ due ∧ due ≤ 64 * t
theorem keyE {i j k c e d : Int} (hm : 6 * j + k = i) (h : e + 6 * d = k - c) : e + 6 * (j - 50 + d) = i - 300 - c := by omega
theorem six : ∀ n : Nat, n < 6 → (n : Int) = 0 ∨ (n : Int) = 1 ∨ (n : Int) = 2 ∨ (n : Int) = 3 ∨ (n : Int) = 4 ∨ (n : Int) = 5 := by decide
theorem mod6 (i : Int) : i % 6 = 0 ∨ i % 6 = 1 ∨ i % 6 = 2 ∨ i % 6 = 3 ∨ i % 6 = 4 ∨ i % 6 = 5 := by
  obtain ⟨n, h⟩ := Int.eq_ofNat_of_zero_le (Int.emod_nonneg i (by decide : (6 : Int) ≠ 0))
  rw [h]
  exact six n (Int.ofNat_lt.mp (h ▸ Int.emod_lt_of_pos i (by decide)))
theorem dueE {x : UInt64} {t lv sh a b : Int} (h : Dn x t (lv * (8 * t - sh * a))) (e : b = a) : Dn x t (lv * (8 * t - sh * b)) := e ▸ h
noncomputable def hsv_all_k : Σ' (P1 : Int → Int → Int → Int → Prop), (∀ p t sh lv, P1 p t sh lv) → ∀ (p t sh lv : Int) (h1 : 1 ≤ sh) (h2 : sh ≤ 8) (h3 : 1 ≤ lv) (h4 : lv ≤ 8) (t1 : 1 ≤ t) (t2 : t ≤ 60) (p1 : -50 ≤ p) (p2 : p ≤ 49 + t), HsvParts p t sh lv := ⟨_, by
  intro hP_1 p t sh lv h1 h2 h3 h4 t1 t2 p1 p2
  have he : e0 = 1 / 2199023255552 := rfl
  have T1 : (1 : Rat) ≤ (t : Rat) := castL rfl t1
  have T2 : (t : Rat) ≤ 60 := castR rfl t2
  have bnd_t : (1 : Rat) ≤ (t : Rat) ∧ (t : Rat) ≤ 60 := ⟨T1, T2⟩
  have T0 : (0 : Rat) < (t : Rat) := posT T1
  have S1 : (1 : Rat) ≤ (sh : Rat) := castL rfl h1
  have S2 : (sh : Rat) ≤ 8 := castR rfl h2
  have bnd_sh : (1 : Rat) ≤ (sh : Rat) ∧ (sh : Rat) ≤ 8 := ⟨S1, S2⟩
  have P2 : (p : Rat) ≤ 49 + (t : Rat) := by exact_mod_cast Rat.intCast_le_intCast.mpr p2
  have hd := divI_Ap (p + 50 * t) t t1 (by omega)
  have hq := div_mul (i := p + 50 * t) t1
  have hH : (0 : Rat) ≤ ((p + 50 * t : Int) : Rat) := by
    have := Rat.intCast_le_intCast.mpr (show 0 ≤ p + 50 * t by omega)
    exact_mod_cast this
  have q1 : 0 ≤ ((p + 50 * t : Int) : Rat) / (t : Rat) ∧ ((p + 50 * t : Int) : Rat) / (t : Rat) ≤ 100 := by
    constructor
    · apply Rat.le_of_mul_le_mul_right _ T0; grind -abstractProof
    · apply Rat.le_of_mul_le_mul_right _ T0; rw [hq]; push_cast; grind -abstractProof
  have hy0 : 0 ≤ rv (Float64.mul (divI (p + 50 * t) t) 4618441417868443648) := by
    by_cases hz : p + 50 * t = 0
    · have ht : t = 1 := by omega
      have hp : p = -50 := by omega
      subst ht hp
      have : Float64.mul (divI (-50 + 50 * 1) 1) 4618441417868443648 = 0 := by decide +kernel
      rw [this, c0.2]; decide +kernel
    · have hpos : (1 : Rat) ≤ ((p + 50 * t : Int) : Rat) := by
        have := Rat.intCast_le_intCast.mpr (show 1 ≤ p + 50 * t by omega)
        exact_mod_cast this
      have q3 : 1 / 60 ≤ ((p + 50 * t : Int) : Rat) / (t : Rat) := by
        apply Rat.le_of_mul_le_mul_right _ T0; rw [hq]; grind -abstractProof
      obtain ⟨f, d1, d2⟩ := hd
      have hm := mulR f c6.1 (by rw [c6.2]; walk_at "#rng")
      rw [c6.2] at hm
      obtain ⟨f2, m1, m2⟩ := hm
      grind -abstractProof
  revert h1 h2 h3 h4 t1 t2 p1 p2 he T1 T2 T0 S1 S2 P2 hd hq hH q1 hy0
  exact hP_1 p t sh lv⟩
noncomputable def hsv_all_R (z : Sk) : Prop := hsv_all_k.1 (z.i 0) (z.i 1) (z.i 2) (z.i 3)
namespace hsv_all_c
def p := (skv hsv_all_R).i 0
def t := (skv hsv_all_R).i 1
def sh := (skv hsv_all_R).i 2
def lv := (skv hsv_all_R).i 3
noncomputable def r1_k : Σ' (P1 : Rat → UInt64 → UInt64 → UInt64 → UInt64 → Int → UInt64 → Int → Prop), (∀ Hq h s v y i f A, P1 Hq h s v y i f A) → hsv_all_k.1 p t sh lv := ⟨_, by
  intro hP_1 
  intro h1 h2 h3 h4 t1 t2 p1 p2 he T1 T2 T0 S1 S2 P2 hd hq hH q1 hy0
  have hv := divI_Ap lv 8 (by decide) (rng8 h3 h4)
  have hs := divI_Ap sh 8 (by decide) (rng8 h1 h2)
  have hv8 : (lv : Rat) / ((8 : Int) : Rat) = (lv : Rat) / 8 := rfl
  have hs8 : (sh : Rat) / ((8 : Int) : Rat) = (sh : Rat) / 8 := rfl
  rw [hv8] at hv
  rw [hs8] at hs
  generalize hA0 : ((p + 50 * t : Int) : Rat) / (t : Rat) = Hq at *
  obtain ⟨fh, d1, d2⟩ := hd
  have hI : hsvI (divI (p + 50 * t) t) = Flt.toInt truncOf (Float64.mul (divI (p + 50 * t) t) 4618441417868443648) := rfl
  have hFe : hsvF (divI (p + 50 * t) t) = Float64.sub (Float64.mul (divI (p + 50 * t) t) 4618441417868443648) (Float64.ofInt (hsvI (divI (p + 50 * t) t))) := rfl
  have hm := mulR fh c6.1 (by rw [c6.2]; walk_at "#rng")
  rw [c6.2] at hm
  have hRd : ∀ h s v, hsvR h s v = pick6 ((hsvI h).fmod 6) v (hsvQ s v (hsvF h)) (hsvP s v) (hsvP s v) (hsvT s v (hsvF h)) v := fun _ _ _ => rfl
  have hGd : ∀ h s v, hsvG h s v = pick6 ((hsvI h).fmod 6) (hsvT s v (hsvF h)) v v (hsvQ s v (hsvF h)) (hsvP s v) (hsvP s v) := fun _ _ _ => rfl
  have hBd : ∀ h s v, hsvB h s v = pick6 ((hsvI h).fmod 6) (hsvP s v) (hsvP s v) (hsvT s v (hsvF h)) v v (hsvQ s v (hsvF h)) := fun _ _ _ => rfl
  suffices X : Float64.isFinite (Float64.mul (divI (p + 50 * t) t) 4618441417868443648) = true ∧ (hsvI (divI (p + 50 * t) t)).natAbs < 1000 ∧
      Dn (hsvR (divI (p + 50 * t) t) (divI sh 8) (divI lv 8)) t (lv * (8 * t - sh * fallI p t 0)) ∧ Dn (hsvG (divI (p + 50 * t) t) (divI sh 8) (divI lv 8)) t (lv * (8 * t - sh * fallI p t 2)) ∧ Dn (hsvB (divI (p + 50 * t) t) (divI sh 8) (divI lv 8)) t (lv * (8 * t - sh * fallI p t 4)) from
    ⟨X.1, X.2.1, X.2.2.1, X.2.2.2.1, X.2.2.2.2⟩
  rw [hRd, hGd, hBd]
  clear hRd hGd hBd
  generalize divI (p + 50 * t) t = h at *
  generalize divI sh 8 = s at *
  generalize divI lv 8 = v at *
  generalize Float64.mul h 4618441417868443648 = y at *
  obtain ⟨fy, m1, m2⟩ := hm
  obtain ⟨i1, i2⟩ := truncR fy hy0
  rw [← hI] at i1 i2
  generalize hsvI h = i at *
  -- i is small
  have j1 : (-1 : Rat) < (i : Rat) := by grind -abstractProof
  have j2 : (i : Rat) < 601 := by grind -abstractProof
  have j3 : -1 < i := Rat.intCast_lt_intCast.mp (by rw [show ((-1 : Int) : Rat) = -1 by decide +kernel]; exact j1)
  have j4 : i < 601 := Rat.intCast_lt_intCast.mp (by rw [show ((601 : Int) : Rat) = 601 by decide +kernel]; exact j2)
  have hi := intR i (by omega)
  obtain ⟨fi, k1, k2⟩ := hi
  have hsub := subR fy fi (by walk_at "#rng")
  rw [← hFe] at hsub
  generalize hsvF h = f at *
  obtain ⟨ff, f1, f2⟩ := hsub
  -- the place within the sixth
  have hA : ((6 * (p + 50 * t) - i * t : Int) : Rat) = (6 * Hq - (i : Rat)) * (t : Rat) := by
    push_cast at hq ⊢; grind -abstractProof
  generalize hAd : 6 * (p + 50 * t) - i * t = A at *
  revert h1 h2 h3 h4 t1 t2 p1 p2 he T1 T2 T0 S1 S2 P2 hH hv8 hs8 hA0 hq q1 fh d1 d2 hs hv hy0 fy m1 m2 hI i1 i2 j1 j2 j3 j4 fi k1 k2 hFe ff f1 f2 hAd hA
  exact hP_1 Hq h s v y i f A⟩
noncomputable def r1_R (z : Sk × Rat) : Prop := r1_k.1 z.2 (z.1.u 0) (z.1.u 1) (z.1.u 2) (z.1.u 3) (z.1.i 0) (z.1.u 4) (z.1.i 1)
noncomputable def r1_z : Sk × Rat := skd (dS, default) r1_R
namespace r1_c
def Hq := r1_z.2
def s := r1_z.1.u 1
def v := r1_z.1.u 2
def y := r1_z.1.u 3
def i := r1_z.1.i 0
def f := r1_z.1.u 4
def A := r1_z.1.i 1
theorem r2 : r1_k.1 Hq (r1_z.1.u 0) s v y i f A := by
  intro h1 h2 h3 h4 t1 t2 p1 p2 he T1 T2 T0 S1 S2 P2 hH hv8 hs8 hA0 hq q1 fh d1 d2 hs hv hy0 fy m1 m2 hI i1 i2 j1 j2 j3 j4 fi k1 k2 hFe ff f1 f2 hAd hA
  have r1 := mulB (a := rv y - 6 * Hq) (A := 8 * e0) (b := (t : Rat)) (B := 60) (by walk_at "#rng") (by first | exact t60 (by assumption) (by assumption) | (walk_at "#rng"))
  have r2 := mulB (a := rv f - (rv y - (i : Rat))) (A := 2 * e0) (b := (t : Rat)) (B := 60) (by walk_at "#rng") (by first | exact t60 (by assumption) (by assumption) | (walk_at "#rng"))
  have r3 := Rat.mul_le_mul_of_nonneg_right i1 (Rat.le_of_lt T0)
  have r4 := Rat.mul_le_mul_of_nonneg_right (Rat.le_of_lt i2) (Rat.le_of_lt T0)
  have A1 : (-1 : Rat) < (A : Rat) := by grind -abstractProof
  have A2 : (A : Rat) < (t : Rat) + 1 := by grind -abstractProof
  have A3 : -1 < A := Rat.intCast_lt_intCast.mp (by rw [show ((-1 : Int) : Rat) = -1 by decide +kernel]; exact A1)
  have A4 : A < t + 1 := castS A2
  have F1 : rv f * (t : Rat) ≤ (A : Rat) + 600 * e0 := by grind -abstractProof
  have F2 : (A : Rat) ≤ rv f * (t : Rat) + 600 * e0 := by grind -abstractProof
  have bf : -1 ≤ rv f ∧ rv f ≤ 2 := (by walk_at "#rng")
  obtain ⟨fs, s1, s2⟩ := hs
  -- the four values
  have hV : Dn v t (lv * (8 * t - sh * 0)) := by
    obtain ⟨fv, v1, v2⟩ := hv
    have w := mulB (a := rv v - (lv : Rat) / 8) (A := e0) (b := (t : Rat)) (B := 60) (by first | exact subB (by assumption) (by assumption) | (walk_at "#rng")) (by first | exact t60 (by assumption) (by assumption) | (walk_at "#rng"))
    refine ⟨⟨fv, ?_, ?_⟩, ?_, ?_⟩
    · push_cast; grind -abstractProof
    · push_cast; grind -abstractProof
    · exact Int.mul_nonneg (by omega) (by omega)
    · have := Int.mul_le_mul h4 (show 8 * t - sh * 0 ≤ 8 * t by omega) (by omega) (by decide)
      omega
  have hP : Dn (hsvP s v) t (lv * (8 * t - sh * t)) := by
    have w := mulB (a := rv s - (sh : Rat) / 8) (A := e0) (b := (t : Rat)) (B := 60) (by first | exact subB (by assumption) (by assumption) | (walk_at "#rng")) (by first | exact t60 (by assumption) (by assumption) | (walk_at "#rng"))
    exact partG hv h3 h4 h1 h2 t1 t2 fs (by omega) (by omega) (by grind -abstractProof) (by grind -abstractProof)
  have w1 := mulB (a := rv s - (sh : Rat) / 8) (A := e0) (b := rv f * (t : Rat)) (B := 61) (by first | exact subB (by assumption) (by assumption) | (walk_at "#rng")) (by walk_at "#rng")
  have hQ : Dn (hsvQ s v f) t (lv * (8 * t - sh * A)) := by
    have b := mulB (a := rv s) (A := 2) (b := rv f) (B := 2) (by walk_at "#rng") (by walk_at "#rng")
    have hm := mulR fs ff (by walk_at "#rng")
    have hd : hsvQ s v f = Float64.mul v (Float64.sub 4607182418800017408 (Float64.mul s f)) := rfl
    rw [hd]
    generalize Float64.mul s f = x at *
    obtain ⟨fx, x1, x2⟩ := hm
    have w2 := mulB (a := rv x - rv s * rv f) (A := e0) (b := (t : Rat)) (B := 60) (by first | exact subB (by assumption) (by assumption) | (walk_at "#rng")) (by first | exact t60 (by assumption) (by assumption) | (walk_at "#rng"))
    have w3 := mulB (a := (sh : Rat)) (A := 8) (b := rv f * (t : Rat) - (A : Rat)) (B := 600 * e0) (by walk_at "#rng") (by walk_at "#rng")
    exact partG hv h3 h4 h1 h2 t1 t2 fx (by omega) (by omega) (by grind -abstractProof) (by grind -abstractProof)
  have hT : Dn (hsvT s v f) t (lv * (8 * t - sh * (t - A))) := by
    have hd : hsvT s v f = Float64.mul v (Float64.sub 4607182418800017408 (Float64.mul s (Float64.sub 4607182418800017408 f))) := rfl
    rw [hd]
    have hg := subR one_rv.1 ff (by rw [one_rv.2]; walk_at "#rng")
    rw [one_rv.2] at hg
    generalize Float64.sub 4607182418800017408 f = g at *
    obtain ⟨fg, g1, g2⟩ := hg
    have b := mulB (a := rv s) (A := 2) (b := rv g) (B := 3) (by walk_at "#rng") (by walk_at "#rng")
    have hm := mulR fs fg (by walk_at "#rng")
    generalize Float64.mul s g = x at *
    obtain ⟨fx, x1, x2⟩ := hm
    have w2 := mulB (a := rv x - rv s * rv g) (A := e0) (b := (t : Rat)) (B := 60) (by first | exact subB (by assumption) (by assumption) | (walk_at "#rng")) (by first | exact t60 (by assumption) (by assumption) | (walk_at "#rng"))
    have w4 := mulB (a := rv g - (1 - rv f)) (A := e0) (b := (t : Rat)) (B := 60) (by first | exact subB (by assumption) (by assumption) | (walk_at "#rng")) (by first | exact t60 (by assumption) (by assumption) | (walk_at "#rng"))
    have w5 := mulB (a := rv s - (sh : Rat) / 8) (A := e0) (b := rv g * (t : Rat)) (B := 62) (by first | exact subB (by assumption) (by assumption) | (walk_at "#rng")) (by walk_at "#rng")
    have w3 := mulB (a := (sh : Rat)) (A := 8) (b := rv g * (t : Rat) - ((t : Rat) - (A : Rat))) (B := 660 * e0) (by walk_at "#rng") (by walk_at "#rng")
    exact partG hv h3 h4 h1 h2 t1 t2 fx (by omega) (by omega) (by push_cast; grind -abstractProof) (by push_cast; grind -abstractProof)
  refine ⟨fin_isFinite fy, by omega, ?_⟩
  have hk : i.fmod 6 = i % 6 := Int.fmod_eq_emod_of_nonneg _ (by decide)
  rw [hk]
  have hm := Int.mul_ediv_add_emod i 6
  generalize i / 6 = j at *
  have hc := mod6 i
  generalize i % 6 = k at *
  have key : ∀ (c e n : Int), e + 6 * n = i - 300 - c → (e = 0 ∨ e = 1 ∨ e = 2 ∨ e = 3 ∨ e = 4 ∨ e = 5) → fallI p t c = fallE e A t := by
    intro c e n hn hee
    refine fallI_E (n := n) t1 ?_ (by omega) (by omega) hee
    have : (e + 6 * n) * t = (i - 300 - c) * t := by rw [hn]
    grind -abstractProof
  unfold pick6
  rcases hc with rfl | rfl | rfl | rfl | rfl | rfl
  · exact ⟨dueE hV (key 0 0 (j - 50 + 0) (keyE hm (by decide)) (by decide)), dueE hT (key 2 4 (j - 50 + -1) (keyE hm (by decide)) (by decide)), dueE hP (key 4 2 (j - 50 + -1) (keyE hm (by decide)) (by decide))⟩
  · exact ⟨dueE hQ (key 0 1 (j - 50 + 0) (keyE hm (by decide)) (by decide)), dueE hV (key 2 5 (j - 50 + -1) (keyE hm (by decide)) (by decide)), dueE hP (key 4 3 (j - 50 + -1) (keyE hm (by decide)) (by decide))⟩
  · exact ⟨dueE hP (key 0 2 (j - 50 + 0) (keyE hm (by decide)) (by decide)), dueE hV (key 2 0 (j - 50 + 0) (keyE hm (by decide)) (by decide)), dueE hT (key 4 4 (j - 50 + -1) (keyE hm (by decide)) (by decide))⟩
  · exact ⟨dueE hP (key 0 3 (j - 50 + 0) (keyE hm (by decide)) (by decide)), dueE hQ (key 2 1 (j - 50 + 0) (keyE hm (by decide)) (by decide)), dueE hV (key 4 5 (j - 50 + -1) (keyE hm (by decide)) (by decide))⟩
  · exact ⟨dueE hT (key 0 4 (j - 50 + 0) (keyE hm (by decide)) (by decide)), dueE hP (key 2 2 (j - 50 + 0) (keyE hm (by decide)) (by decide)), dueE hV (key 4 0 (j - 50 + 0) (keyE hm (by decide)) (by decide))⟩
  · exact ⟨dueE hV (key 0 5 (j - 50 + 0) (keyE hm (by decide)) (by decide)), dueE hP (key 2 3 (j - 50 + 0) (keyE hm (by decide)) (by decide)), dueE hQ (key 4 1 (j - 50 + 0) (keyE hm (by decide)) (by decide))⟩
end r1_c
theorem r1  : hsv_all_k.1 p t sh lv :=
  r1_k.2 (fun Hq h s v y i f A => skall _ r1_R r1_c.r2 ((sk_u h <| sk_u s <| sk_u v <| sk_u y <| sk_i i <| sk_u f <| sk_i A <| dS), Hq)) 
end hsv_all_c
theorem hsv_all {p t sh lv : Int} (h1 : 1 ≤ sh) (h2 : sh ≤ 8) (h3 : 1 ≤ lv) (h4 : lv ≤ 8) (t1 : 1 ≤ t) (t2 : t ≤ 60) (p1 : -50 ≤ p) (p2 : p ≤ 49 + t) : HsvParts p t sh lv :=
  hsv_all_k.2 (fun p t sh lv => skva hsv_all_R hsv_all_c.r1 (sk_i p <| sk_i t <| sk_i sh <| sk_i lv <| dS)) p t sh lv h1 h2 h3 h4 t1 t2 p1 p2
theorem hsv_ok {p t sh lv : Int} (h1 : 1 ≤ sh) (h2 : sh ≤ 8) (h3 : 1 ≤ lv) (h4 : lv ≤ 8) (t1 : 1 ≤ t) (t2 : t ≤ 60) (p1 : -50 ≤ p) (p2 : p ≤ 49 + t) : HsvOk p t sh lv := by
  obtain ⟨f, i, ⟨x1, x2, x3⟩, ⟨y1, y2, y3⟩, ⟨z1, z2, z3⟩⟩ := hsv_all h1 h2 h3 h4 t1 t2 p1 p2
  exact ⟨by omega, by omega, ⟨share_ne h1 h2, f, i⟩, by omega, by omega, by omega, near_part x1 t1 t2 x2 x3, near_part y1 t1 t2 y2 y3, near_part z1 t1 t2 z2 z3⟩
end Mine.Internal
end
noncomputable section -- FlM
open PySem PySem.Float64
namespace Mine.Internal
theorem armR {v : UInt64} {t due : Int} (h : Dn v t due) (t1 : 1 ≤ t) (t2 : t ≤ 60) :
    armFin v ∧ ((armX v : Int) : Rat) * (t : Rat) ≤ (due : Rat) * 16384 + (t : Rat) / 2 + 1 / 32 ∧ (due : Rat) * 16384 + (t : Rat) / 2 ≤ ((armX v : Int) : Rat) * (t : Rat) + (t : Rat) + 1 / 32 := by
  have he : e0 = 1 / 2199023255552 := rfl
  obtain ⟨hp, d1, d2⟩ := h
  have hr := part_range hp t1 d1 d2
  have T1 : (1 : Rat) ≤ (t : Rat) := castL rfl t1
  have T2 : (t : Rat) ≤ 60 := castR rfl t2
  have bnd_t : (1 : Rat) ≤ (t : Rat) ∧ (t : Rat) ≤ 60 := ⟨T1, T2⟩
  have T0 : (0 : Rat) < (t : Rat) := posT T1
  obtain ⟨hf, h1, h2⟩ := hp
  have g2 : (1 : Rat) / ((4294967296 : Nat) : Rat) = 1 / 4294967296 := rfl
  have b2 : ((2097152 : Nat) : Rat) = 2097152 := rfl
  have hi := intG grain2 1048576 (by decide)
  have e20 : ((1048576 : Int) : Rat) = 1048576 := rfl
  rw [e20, g2] at hi
  have hX : armX v = Flt.toInt truncOf (Float64.add (Float64.mul v (Float64.ofInt 1048576)) 4602678819172646912) := rfl
  have hF : armFin v = (isFinite (Float64.add (Float64.mul v (Float64.ofInt 1048576)) 4602678819172646912) = true) := rfl
  rw [hF, hX]
  generalize ofInt 1048576 = a at *
  obtain ⟨fa, a1, a2⟩ := hi
  have p1 := mulB (a := rv v) (A := 3 / 2) (b := rv a) (B := 1048577) (by walk_at "#rng") (by walk_at "#rng")
  have m1 := mulG grain2 hf fa (by rw [b2]; walk_at "#rng")
  rw [g2] at m1
  have q1 := mulB (a := rv v) (A := 2) (b := rv a - 1048576) (B := 1 / 4294967296) (by walk_at "#rng") (by walk_at "#rng")
  generalize Float64.mul v a = u at *
  obtain ⟨fu, u1, u2⟩ := m1
  have m2 := addG grain2 fu ch.1 (by rw [b2, ch.2]; walk_at "#rng")
  rw [g2, ch.2] at m2
  generalize Float64.add u 4602678819172646912 = y at *
  obtain ⟨fy, y1, y2⟩ := m2
  obtain ⟨i1, i2⟩ := truncR fy (by grind -abstractProof)
  generalize Flt.toInt truncOf y = i at *
  have r3 := Rat.mul_le_mul_of_nonneg_right i1 (Rat.le_of_lt T0)
  have r4 := Rat.mul_le_mul_of_nonneg_right (Rat.le_of_lt i2) (Rat.le_of_lt T0)
  have r5 := mulB (a := rv y - (rv v * 1048576 + 1 / 2)) (A := 4 / 4294967296) (b := (t : Rat)) (B := 60) (by walk_at "#rng") (by first | exact t60 (by assumption) (by assumption) | (walk_at "#rng"))
  refine ⟨fin_isFinite fy, ?_, ?_⟩ <;> grind -abstractProof
theorem armX_lt {v v' : UInt64} {t d d' : Int} (h : Dn v t d) (h' : Dn v' t d') (t1 : 1 ≤ t) (t2 : t ≤ 60) (hd : d < d') : armX v < armX v' := by
  have T1 : (1 : Rat) ≤ (t : Rat) := castL rfl t1
  have T2 : (t : Rat) ≤ 60 := castR rfl t2
  have bnd_t : (1 : Rat) ≤ (t : Rat) ∧ (t : Rat) ≤ 60 := ⟨T1, T2⟩
  have T0 : (0 : Rat) < (t : Rat) := posT T1
  obtain ⟨_, a1, a2⟩ := armR h t1 t2
  obtain ⟨_, b1, b2⟩ := armR h' t1 t2
  have hd' : (d : Rat) + 1 ≤ (d' : Rat) := by exact_mod_cast Rat.intCast_le_intCast.mpr (show d + 1 ≤ d' by omega)
  have hlt : ((armX v : Int) : Rat) < ((armX v' : Int) : Rat) := by
    apply (Rat.mul_lt_mul_right T0).mp; grind -abstractProof
  exact_mod_cast hlt
theorem armX_eq {v : UInt64} {t N : Int} (h : Dn v t (N * t)) (t1 : 1 ≤ t) (t2 : t ≤ 60) : armX v = N * 16384 := by
  have T1 : (1 : Rat) ≤ (t : Rat) := castL rfl t1
  have T2 : (t : Rat) ≤ 60 := castR rfl t2
  have bnd_t : (1 : Rat) ≤ (t : Rat) ∧ (t : Rat) ≤ 60 := ⟨T1, T2⟩
  have T0 : (0 : Rat) < (t : Rat) := posT T1
  obtain ⟨_, a1, a2⟩ := armR h t1 t2
  push_cast at a1 a2
  have h1 : ((armX v : Int) : Rat) < (N : Rat) * 16384 + 1 := by
    apply (Rat.mul_lt_mul_right T0).mp; grind -abstractProof
  have h2 : (N : Rat) * 16384 < ((armX v : Int) : Rat) + 1 := by
    apply (Rat.mul_lt_mul_right T0).mp; grind -abstractProof
  have h3 : armX v < N * 16384 + 1 := Rat.intCast_lt_intCast.mp (by rw [Rat.intCast_add, Rat.intCast_mul]; exact h1)
  have h4 : N * 16384 < armX v + 1 := Rat.intCast_lt_intCast.mp (by rw [Rat.intCast_add, Rat.intCast_mul]; exact h2)
  omega
structure Dec (d : Int → Int) (t : Int) : Prop where
  lt : ∀ a b, a < b → d b < d a
  top : ∃ N, d 0 = N * t
  bot : ∃ N, d t = N * t
theorem cmpF {d : Int → Int} {t : Int} {v v' : UInt64} {F F' : Int} (hd : Dec d t) (h : Dn v t (d F)) (h' : Dn v' t (d F')) (t1 : 1 ≤ t) (t2 : t ≤ 60) (hF : F < F') : armX v' < armX v := armX_lt h' h t1 t2 (hd.lt _ _ hF)
theorem cmpLe {d : Int → Int} {t : Int} {v v' : UInt64} {F F' : Int} (hd : Dec d t) (h : Dn v t (d F)) (h' : Dn v' t (d F')) (t1 : 1 ≤ t) (t2 : t ≤ 60) (hF : F ≤ F') (he : F = F' → F = 0 ∨ F = t) : armX v' ≤ armX v := by
  by_cases e : F = F'
  · subst e
    rcases he rfl with rfl | rfl
    · obtain ⟨N, hN⟩ := hd.top
      rw [hN] at h h'
      rw [armX_eq h t1 t2, armX_eq h' t1 t2]; exact Int.le_refl _
    · obtain ⟨N, hN⟩ := hd.bot
      rw [hN] at h h'
      rw [armX_eq h t1 t2, armX_eq h' t1 t2]; exact Int.le_refl _
  · have := cmpF hd h h' t1 t2 (by omega)
    omega
theorem arm_of {d : Int → Int} {p t k A n : Int} {v0 v2 v4 : UInt64} (hd : Dec d t) (t1 : 1 ≤ t) (t2 : t ≤ 60) (h : 6 * p = A + k * t + 6 * t * n) (h0 : 0 ≤ A) (h1 : A < t) (hk : 0 ≤ k ∧ k < 6)
    (P0 : Dn v0 t (d (fallI p t 0))) (P2 : Dn v2 t (d (fallI p t 2))) (P4 : Dn v4 t (d (fallI p t 4))) : armI (armX v0) (armX v2) (armX v4) = k := by
  have key : ∀ (c e m : Int), e + 6 * m = k - c → (e = 0 ∨ e = 1 ∨ e = 2 ∨ e = 3 ∨ e = 4 ∨ e = 5) → fallI p t c = fallE e A t := by
    intro c e m hn hee
    refine fallI_E (n := n + m) t1 ?_ (by omega) (by omega) hee
    have : (e + 6 * m) * t = (k - c) * t := by rw [hn]
    grind -abstractProof
  have hA : 0 < t - A := Int.sub_pos_of_lt h1
  have hB : t - A ≤ t := Int.sub_le_self _ h0
  have hc : k = 0 ∨ k = 1 ∨ k = 2 ∨ k = 3 ∨ k = 4 ∨ k = 5 := by omega
  rcases hc with rfl | rfl | rfl | rfl | rfl | rfl
  · replace P0 : Dn v0 t (d 0) := by rw [key 0 0 0 (by decide) (by decide)] at P0; exact P0
    replace P2 : Dn v2 t (d (t - A)) := by rw [key 2 4 (-1) (by decide) (by decide)] at P2; exact P2
    replace P4 : Dn v4 t (d t) := by rw [key 4 2 (-1) (by decide) (by decide)] at P4; exact P4
    have c1 := cmpF hd P0 P2 t1 t2 hA
    have c2 := cmpLe hd P2 P4 t1 t2 hB (fun e => .inr e)
    unfold armI; rw [if_pos ⟨by omega, by omega⟩]
  · replace P0 : Dn v0 t (d A) := by rw [key 0 1 0 (by decide) (by decide)] at P0; exact P0
    replace P2 : Dn v2 t (d 0) := by rw [key 2 5 (-1) (by decide) (by decide)] at P2; exact P2
    replace P4 : Dn v4 t (d t) := by rw [key 4 3 (-1) (by decide) (by decide)] at P4; exact P4
    have c1 := cmpLe hd P2 P0 t1 t2 h0 (fun _ => .inl rfl)
    have c2 := cmpF hd P0 P4 t1 t2 h1
    unfold armI; rw [if_neg (by omega), if_pos ⟨by omega, by omega⟩]
  · replace P0 : Dn v0 t (d t) := by rw [key 0 2 0 (by decide) (by decide)] at P0; exact P0
    replace P2 : Dn v2 t (d 0) := by rw [key 2 0 0 (by decide) (by decide)] at P2; exact P2
    replace P4 : Dn v4 t (d (t - A)) := by rw [key 4 4 (-1) (by decide) (by decide)] at P4; exact P4
    have c1 := cmpF hd P2 P4 t1 t2 hA
    have c2 := cmpLe hd P4 P0 t1 t2 hB (fun e => .inr e)
    unfold armI; rw [if_neg (by omega), if_neg (by omega), if_pos ⟨by omega, by omega⟩]
  · replace P0 : Dn v0 t (d t) := by rw [key 0 3 0 (by decide) (by decide)] at P0; exact P0
    replace P2 : Dn v2 t (d A) := by rw [key 2 1 0 (by decide) (by decide)] at P2; exact P2
    replace P4 : Dn v4 t (d 0) := by rw [key 4 5 (-1) (by decide) (by decide)] at P4; exact P4
    have c1 := cmpLe hd P4 P2 t1 t2 h0 (fun _ => .inl rfl)
    have c2 := cmpF hd P2 P0 t1 t2 h1
    unfold armI; rw [if_neg (by omega), if_neg (by omega), if_neg (by omega), if_pos ⟨by omega, by omega⟩]
  · replace P0 : Dn v0 t (d (t - A)) := by rw [key 0 4 0 (by decide) (by decide)] at P0; exact P0
    replace P2 : Dn v2 t (d t) := by rw [key 2 2 0 (by decide) (by decide)] at P2; exact P2
    replace P4 : Dn v4 t (d 0) := by rw [key 4 0 0 (by decide) (by decide)] at P4; exact P4
    have c1 := cmpF hd P4 P0 t1 t2 hA
    have c2 := cmpLe hd P0 P2 t1 t2 hB (fun e => .inr e)
    unfold armI; rw [if_neg (by omega), if_neg (by omega), if_neg (by omega), if_neg (by omega), if_pos ⟨by omega, by omega⟩]
  · replace P0 : Dn v0 t (d 0) := by rw [key 0 5 0 (by decide) (by decide)] at P0; exact P0
    replace P2 : Dn v2 t (d t) := by rw [key 2 3 0 (by decide) (by decide)] at P2; exact P2
    replace P4 : Dn v4 t (d A) := by rw [key 4 1 0 (by decide) (by decide)] at P4; exact P4
    have c1 := cmpLe hd P0 P4 t1 t2 h0 (fun _ => .inl rfl)
    have c2 := cmpF hd P4 P2 t1 t2 h1
    unfold armI; rw [if_neg (by omega), if_neg (by omega), if_neg (by omega), if_neg (by omega), if_neg (by omega), if_pos ⟨by omega, by omega⟩]
theorem dec_hsv {sh lv t : Int} (h1 : 1 ≤ sh) (h3 : 1 ≤ lv) : Dec (fun F => lv * (8 * t - sh * F)) t where
  lt := fun a b h => Int.mul_lt_mul_of_pos_left (by have := Int.mul_lt_mul_of_pos_left h (show 0 < sh by omega); omega) (by omega)
  top := ⟨lv * 8, by grind -abstractProof⟩
  bot := ⟨lv * (8 - sh), by grind -abstractProof⟩
theorem dec_hls {K lt t : Int} (h1 : 1 ≤ K) : Dec (fun F => 8 * lt * t + K * (t - 2 * F)) t where
  lt := fun a b h => by have := Int.mul_lt_mul_of_pos_left (show t - 2 * b < t - 2 * a by omega) (show 0 < K by omega); omega
  top := ⟨8 * lt + K, by grind -abstractProof⟩
  bot := ⟨8 * lt - K, by grind -abstractProof⟩
end Mine.Internal
end
noncomputable section -- FlN
open PySem PySem.Float64
namespace Mine.Internal
structure Falls (p t a b c : Int) : Prop where
  ra : 0 ≤ a ∧ a ≤ t
  rb : 0 ≤ b ∧ b ≤ t
  rc : 0 ≤ c ∧ c ≤ t
  top : a = 0 ∨ b = 0 ∨ c = 0
  bot : a = t ∨ b = t ∨ c = t
  pa : a = 0 → ∃ n, c - b = 6 * (p - t * n)
  pb : b = 0 → ∃ n, 2 * t + a - c = 6 * (p - t * n)
  pc : c = 0 → ∃ n, 4 * t + b - a = 6 * (p - t * n)
theorem place_parts {p t : Int} (t1 : 1 ≤ t) : ∃ k A n : Int, 6 * p = A + k * t + 6 * t * n ∧ 0 ≤ A ∧ A < t ∧ 0 ≤ k ∧ k < 6 ∧ k = (6 * p) % (6 * t) / t := by
  refine ⟨(6 * p) % (6 * t) / t, (6 * p) % (6 * t) % t, (6 * p) / (6 * t), ?_, ?_, ?_, ?_, ?_, rfl⟩
  · have h1 := Int.mul_ediv_add_emod (6 * p) (6 * t)
    have h2 := Int.mul_ediv_add_emod ((6 * p) % (6 * t)) t
    have h3 : (6 * p) % (6 * t) / t * t = t * ((6 * p) % (6 * t) / t) := Int.mul_comm _ _
    omega
  · exact Int.emod_nonneg _ (by omega)
  · exact Int.emod_lt_of_pos _ (by omega)
  · exact Int.ediv_nonneg (Int.emod_nonneg _ (by omega)) (by omega)
  · exact Int.ediv_lt_of_lt_mul (by omega) (Int.emod_lt_of_pos _ (by omega))
theorem falls_of {p t : Int} (t1 : 1 ≤ t) : Falls p t (fallI p t 0) (fallI p t 2) (fallI p t 4) := by
  obtain ⟨k, A, n, h, h0, h1, hk0, hk1, -⟩ := place_parts (p := p) t1
  have key : ∀ (c e m : Int), e + 6 * m = k - c → (e = 0 ∨ e = 1 ∨ e = 2 ∨ e = 3 ∨ e = 4 ∨ e = 5) → fallI p t c = fallE e A t := by
    intro c e m hn hee
    refine fallI_E (n := n + m) t1 ?_ (by omega) (by omega) hee
    have : (e + 6 * m) * t = (k - c) * t := by rw [hn]
    grind -abstractProof
  have hm : t * (n + 1) = t * n + t := by grind -abstractProof
  have hn6 : 6 * t * n = 6 * (t * n) := by grind -abstractProof
  have hc : k = 0 ∨ k = 1 ∨ k = 2 ∨ k = 3 ∨ k = 4 ∨ k = 5 := by omega
  have z0 : (0 : Int) ≤ 0 ∧ 0 ≤ t := ⟨Int.le_refl _, by omega⟩
  have zt : 0 ≤ t ∧ t ≤ t := ⟨z0.2, Int.le_refl _⟩
  have zA : 0 ≤ A ∧ A ≤ t := ⟨h0, Int.le_of_lt h1⟩
  have zB : 0 ≤ t - A ∧ t - A ≤ t := ⟨Int.sub_nonneg_of_le zA.2, Int.sub_le_self _ h0⟩
  rcases hc with rfl | rfl | rfl | rfl | rfl | rfl
  · rw [key 0 0 0 (by decide) (by decide), key 2 4 (-1) (by decide) (by decide), key 4 2 (-1) (by decide) (by decide)]
    exact (show Falls p t 0 (t - A) t from ⟨z0, zB, zt, .inl rfl, .inr (.inr rfl), fun _ => ⟨n, by omega⟩, fun _ => ⟨n, by omega⟩, fun _ => ⟨n, by omega⟩⟩)
  · rw [key 0 1 0 (by decide) (by decide), key 2 5 (-1) (by decide) (by decide), key 4 3 (-1) (by decide) (by decide)]
    exact (show Falls p t A 0 t from ⟨zA, z0, zt, .inr (.inl rfl), .inr (.inr rfl), fun _ => ⟨n, by omega⟩, fun _ => ⟨n, by omega⟩, fun _ => ⟨n, by omega⟩⟩)
  · rw [key 0 2 0 (by decide) (by decide), key 2 0 0 (by decide) (by decide), key 4 4 (-1) (by decide) (by decide)]
    exact (show Falls p t t 0 (t - A) from ⟨zt, z0, zB, .inr (.inl rfl), .inl rfl, fun _ => ⟨n, by omega⟩, fun _ => ⟨n, by omega⟩, fun _ => ⟨n, by omega⟩⟩)
  · rw [key 0 3 0 (by decide) (by decide), key 2 1 0 (by decide) (by decide), key 4 5 (-1) (by decide) (by decide)]
    exact (show Falls p t t A 0 from ⟨zt, zA, z0, .inr (.inr rfl), .inl rfl, fun _ => ⟨n, by omega⟩, fun _ => ⟨n, by omega⟩, fun _ => ⟨n, by omega⟩⟩)
  · rw [key 0 4 0 (by decide) (by decide), key 2 2 0 (by decide) (by decide), key 4 0 0 (by decide) (by decide)]
    exact (show Falls p t (t - A) t 0 from ⟨zB, zt, z0, .inr (.inr rfl), .inr (.inl rfl), fun _ => ⟨n, by omega⟩, fun _ => ⟨n, by omega⟩, fun _ => ⟨n, by omega⟩⟩)
  · rw [key 0 5 0 (by decide) (by decide), key 2 3 0 (by decide) (by decide), key 4 1 0 (by decide) (by decide)]
    exact (show Falls p t 0 t A from ⟨z0, zt, zA, .inl rfl, .inr (.inl rfl), fun _ => ⟨n + 1, by omega⟩, fun _ => ⟨n, by omega⟩, fun _ => ⟨n, by omega⟩⟩)
theorem nearN {z : UInt64} {D : Int} {q : Rat} (h : Ap z (D : Rat) q) (hq : q ≤ 1 / 2048) (d1 : -2000 ≤ D) (d2 : D ≤ 2000) : nearB z D = true := by
  have he : e0 = 1 / 2199023255552 := rfl
  have D1 : (-2000 : Rat) ≤ (D : Rat) := by have := Rat.intCast_le_intCast.mpr d1; rwa [show ((-2000 : Int) : Rat) = -2000 by decide +kernel] at this
  have D2 : (D : Rat) ≤ 2000 := by have := Rat.intCast_le_intCast.mpr d2; rwa [show ((2000 : Int) : Rat) = 2000 by decide +kernel] at this
  obtain ⟨fz, z1, z2⟩ := h
  have id := intR D (by omega)
  unfold nearB
  generalize ofInt D = d at *
  obtain ⟨fd, dd1, dd2⟩ := id
  have m3 := subR fz fd ⟨by grind -abstractProof, by grind -abstractProof⟩
  generalize sub z d = y at *
  obtain ⟨fy, y1, y2⟩ := m3
  have ha := absR fy
  rw [lt_iff ha.1 cmil.1, cmil.2]
  rcases ha.2 with h | h <;> rw [h] <;> grind -abstractProof
theorem divNear {n d : UInt64} {c w q : Rat} (hn : Fin n) (hd : Fin d) (hw : 0 < w) (h0 : w ≤ rv d) (h1 : rv n ≤ c * rv d + q * w) (h2 : c * rv d ≤ rv n + q * w) (c1 : -100 ≤ c ∧ c ≤ 100) (hq : 0 ≤ q ∧ q ≤ 1) : Ap (Float64.div n d) c (q + e0) := by
  have he : e0 = 1 / 2199023255552 := rfl
  have hp : 0 < rv d := by grind -abstractProof
  have e1 : rv n / rv d * rv d = rv n := Rat.div_mul_cancel (Rat.ne_of_gt hp)
  have hqd := Rat.mul_le_mul_of_nonneg_left h0 hq.1
  have u1 : rv n / rv d ≤ c + q := by
    apply Rat.le_of_mul_le_mul_right _ hp; rw [e1]; grind -abstractProof
  have u2 : c ≤ rv n / rv d + q := by
    apply Rat.le_of_mul_le_mul_right _ hp
    rw [Rat.add_mul, e1]; grind -abstractProof
  have hdv := divR hn hd (Rat.ne_of_gt hp) ⟨by grind -abstractProof, by grind -abstractProof⟩
  obtain ⟨f, v1, v2⟩ := hdv
  exact ⟨f, by grind -abstractProof, by grind -abstractProof⟩
theorem ltF_iff {x y : UInt64} (hx : Fin x) (hy : Fin y) : ltF x y = true ↔ rv x < rv y := lt_iff hx hy
theorem max3R {x y z : UInt64} (hx : Fin x) (hy : Fin y) (hz : Fin z) : Fin (max3F x y z) ∧ rv x ≤ rv (max3F x y z) ∧ rv y ≤ rv (max3F x y z) ∧ rv z ≤ rv (max3F x y z) ∧ (max3F x y z = x ∨ max3F x y z = y ∨ max3F x y z = z) := by
  unfold max3F
  simp only [ltF_iff hx hy, ltF_iff hy hz, ltF_iff hx hz]
  split <;> split <;> refine ⟨by assumption, ?_, ?_, ?_, ?_⟩ <;> first | grind -abstractProof | simp
theorem min3R {x y z : UInt64} (hx : Fin x) (hy : Fin y) (hz : Fin z) : Fin (min3F x y z) ∧ rv (min3F x y z) ≤ rv x ∧ rv (min3F x y z) ≤ rv y ∧ rv (min3F x y z) ≤ rv z ∧ (min3F x y z = x ∨ min3F x y z = y ∨ min3F x y z = z) := by
  unfold min3F
  simp only [ltF_iff hy hx, ltF_iff hz hy, ltF_iff hz hx]
  split <;> split <;> refine ⟨by assumption, ?_, ?_, ?_, ?_⟩ <;> first | grind -abstractProof | simp
end Mine.Internal
end
end
noncomputable section -- FlO
open PySem PySem.Float64
namespace Mine.Internal
noncomputable abbrev dl : Rat := 32768 * e0
theorem extR {x y z m T M D a b c : Rat} (T1 : 1 ≤ T) (hm : m = x ∨ m = y ∨ m = z) (hx : x ≤ m) (hy : y ≤ m) (hz : z ≤ m) (D0 : 0 ≤ D) (a0 : 0 ≤ a) (b0 : 0 ≤ b) (c0 : 0 ≤ c)
    (h0 : a = 0 ∨ b = 0 ∨ c = 0) (x1 : x * T ≤ M * T - D * a + dl) (x2 : M * T - D * a ≤ x * T + dl) (y1 : y * T ≤ M * T - D * b + dl) (y2 : M * T - D * b ≤ y * T + dl) (z1 : z * T ≤ M * T - D * c + dl) (z2 : M * T - D * c ≤ z * T + dl) :
    m ≤ M + dl ∧ M ≤ m + dl := by
  have he : e0 = 1 / 2199023255552 := rfl
  have T0 : (0 : Rat) < T := by grind -abstractProof
  have da := Rat.mul_nonneg D0 a0
  have db := Rat.mul_nonneg D0 b0
  have dc := Rat.mul_nonneg D0 c0
  have hd : dl ≤ dl * T := by
    have := Rat.mul_le_mul_of_nonneg_left T1 (show (0 : Rat) ≤ dl by decide +kernel)
    grind -abstractProof
  have e1 := Rat.mul_le_mul_of_nonneg_right hx (Rat.le_of_lt T0)
  have e2 := Rat.mul_le_mul_of_nonneg_right hy (Rat.le_of_lt T0)
  have e3 := Rat.mul_le_mul_of_nonneg_right hz (Rat.le_of_lt T0)
  constructor
  · apply Rat.le_of_mul_le_mul_right _ T0
    rcases hm with h | h | h <;> rw [h] <;> grind -abstractProof
  · apply Rat.le_of_mul_le_mul_right _ T0
    rcases h0 with h | h | h <;> subst h <;> grind -abstractProof
theorem gapR {mx mn v : UInt64} {T M D F c : Rat} (T1 : 1 ≤ T) (T2 : T ≤ 60) (fx : Fin mx) (fn : Fin mn) (fv : Fin v) (D1 : 1 / 32 ≤ D) (D2 : D ≤ 1) (M0 : 0 ≤ M ∧ M ≤ 1)
    (x1 : rv mx ≤ M + dl) (x2 : M ≤ rv mx + dl) (n1 : rv mn ≤ M - D + dl) (n2 : M - D ≤ rv mn + dl) (hc : c * T = F) (c0 : 0 ≤ c) (c1 : c ≤ 1) (v1 : rv v * T ≤ M * T - D * F + dl) (v2 : M * T - D * F ≤ rv v * T + dl) : Ap (rgbC mx mn v) c (170 * dl) := by
  have he : e0 = 1 / 2199023255552 := rfl
  have T0 : (0 : Rat) < T := by grind -abstractProof
  have hd : dl ≤ dl * T := by
    have := Rat.mul_le_mul_of_nonneg_left T1 (show (0 : Rat) ≤ dl by decide +kernel)
    grind -abstractProof
  have hDF : D * F = D * c * T := by rw [← hc]; grind -abstractProof
  have w1 : rv v ≤ M - D * c + dl := by apply Rat.le_of_mul_le_mul_right _ T0; grind -abstractProof
  have w2 : M - D * c ≤ rv v + dl := by apply Rat.le_of_mul_le_mul_right _ T0; grind -abstractProof
  have k1 := mulB (a := D) (A := 1) (b := c) (B := 1) ⟨by grind -abstractProof, by grind -abstractProof⟩ ⟨by grind -abstractProof, by grind -abstractProof⟩
  have hN := subR fx fv ⟨by grind -abstractProof, by grind -abstractProof⟩
  have hD := subR fx fn ⟨by grind -abstractProof, by grind -abstractProof⟩
  unfold rgbC
  generalize sub mx v = n at *
  generalize sub mx mn = d at *
  obtain ⟨f1, s1, s2⟩ := hN
  obtain ⟨f2, d1, d2⟩ := hD
  have k2 := mulB (a := rv d - D) (A := 3 * dl) (b := c) (B := 1) ⟨by grind -abstractProof, by grind -abstractProof⟩ ⟨by grind -abstractProof, by grind -abstractProof⟩
  exact (divNear (w := 1 / 33) (q := 169 * dl) f1 f2 (by decide +kernel) (by grind -abstractProof) (by grind -abstractProof) (by grind -abstractProof) ⟨by grind -abstractProof, by grind -abstractProof⟩ ⟨by grind -abstractProof, by grind -abstractProof⟩).mono (by grind -abstractProof)
theorem rgbK_near {mx mn r g b : UInt64} {T M D F0 F2 F4 : Rat} (T1 : 1 ≤ T) (T2 : T ≤ 60) (fx : Fin mx) (fn : Fin mn) (fr : Fin r) (fg : Fin g) (fb : Fin b) (D1 : 1 / 32 ≤ D) (D2 : D ≤ 1) (M0 : 0 ≤ M ∧ M ≤ 1)
    (x1 : rv mx ≤ M + dl) (x2 : M ≤ rv mx + dl) (n1 : rv mn ≤ M - D + dl) (n2 : M - D ≤ rv mn + dl) (hx : mx = r ∨ mx = g ∨ mx = b)
    (r0 : 0 ≤ F0 ∧ F0 ≤ T) (g0 : 0 ≤ F2 ∧ F2 ≤ T) (b0 : 0 ≤ F4 ∧ F4 ≤ T)
    (v1 : rv r * T ≤ M * T - D * F0 + dl) (v2 : M * T - D * F0 ≤ rv r * T + dl) (v3 : rv g * T ≤ M * T - D * F2 + dl) (v4 : M * T - D * F2 ≤ rv g * T + dl) (v5 : rv b * T ≤ M * T - D * F4 + dl) (v6 : M * T - D * F4 ≤ rv b * T + dl) :
    ∃ X : Rat, Ap (rgbK mx mn r g b) X (350 * dl) ∧ -3 ≤ X ∧ X ≤ 7 ∧ ((X * T = F4 - F2 ∧ F0 < 1) ∨ (X * T = 2 * T + F0 - F4 ∧ F2 < 1) ∨ (X * T = 4 * T + F2 - F0 ∧ F4 < 1)) := by
  have he : e0 = 1 / 2199023255552 := rfl
  have T0 : (0 : Rat) < T := by grind -abstractProof
  have hd : dl ≤ dl * T := by
    have := Rat.mul_le_mul_of_nonneg_left T1 (show (0 : Rat) ≤ dl by decide +kernel)
    grind -abstractProof
  have hc : ∀ F, 0 ≤ F ∧ F ≤ T → (F / T) * T = F ∧ 0 ≤ F / T ∧ F / T ≤ 1 := by
    intro F hF
    have h1 : F / T * T = F := Rat.div_mul_cancel (Rat.ne_of_gt T0)
    refine ⟨h1, ?_, ?_⟩
    · apply Rat.le_of_mul_le_mul_right _ T0; grind -abstractProof
    · apply Rat.le_of_mul_le_mul_right _ T0; grind -abstractProof
  obtain ⟨p1, p2, p3⟩ := hc F0 r0
  obtain ⟨p4, p5, p6⟩ := hc F2 g0
  obtain ⟨p7, p8, p9⟩ := hc F4 b0
  have hr := gapR T1 T2 fx fn fr D1 D2 M0 x1 x2 n1 n2 p1 p2 p3 v1 v2
  have hg := gapR T1 T2 fx fn fg D1 D2 M0 x1 x2 n1 n2 p4 p5 p6 v3 v4
  have hb := gapR T1 T2 fx fn fb D1 D2 M0 x1 x2 n1 n2 p7 p8 p9 v5 v6
  generalize F0 / T = c0 at *
  generalize F2 / T = c2' at *
  generalize F4 / T = c4' at *
  -- the greatest has no fall
  have small : ∀ F, 0 ≤ F → M * T - D * F + dl ≥ rv mx * T → F < 1 := by
    intro F hF h
    have x3 := Rat.mul_le_mul_of_nonneg_right x2 (Rat.le_of_lt T0)
    have h2 : D * F ≤ 61 * dl := by grind -abstractProof
    have h3 := Rat.mul_le_mul_of_nonneg_right D1 hF
    grind -abstractProof
  unfold rgbK
  generalize rgbC mx mn r = rr at *
  generalize rgbC mx mn g = gg at *
  generalize rgbC mx mn b = bb at *
  obtain ⟨f1, r1, r2⟩ := hr
  obtain ⟨f2, g1, g2⟩ := hg
  obtain ⟨f3, b1, b2⟩ := hb
  by_cases k1 : eqF r mx = true
  · rw [if_pos k1]
    have e1 := (eq_iff fr fx).mp k1
    have hs := subR f3 f2 ⟨by grind -abstractProof, by grind -abstractProof⟩
    obtain ⟨fs, s1, s2⟩ := hs
    refine ⟨c4' - c2', ⟨fs, by grind -abstractProof, by grind -abstractProof⟩, by grind -abstractProof, by grind -abstractProof, .inl ⟨by grind -abstractProof, small F0 r0.1 (by rw [← e1]; exact v1)⟩⟩
  · rw [if_neg k1]
    by_cases k2 : eqF g mx = true
    · rw [if_pos k2]
      have e1 := (eq_iff fg fx).mp k2
      have ha := addR c2.1 f1 (by rw [c2.2]; constructor <;> grind -abstractProof)
      rw [c2.2] at ha
      generalize add 4611686018427387904 rr = u at *
      obtain ⟨fu, u1, u2⟩ := ha
      have hs := subR fu f3 ⟨by grind -abstractProof, by grind -abstractProof⟩
      obtain ⟨fs, s1, s2⟩ := hs
      refine ⟨2 + c0 - c4', ⟨fs, by grind -abstractProof, by grind -abstractProof⟩, by grind -abstractProof, by grind -abstractProof, .inr (.inl ⟨by grind -abstractProof, small F2 g0.1 (by rw [← e1]; exact v3)⟩)⟩
    · rw [if_neg k2]
      have hxb : mx = b := by
        rcases hx with h | h | h
        · exact absurd ((eq_iff fr fx).mpr (by rw [h])) k1
        · exact absurd ((eq_iff fg fx).mpr (by rw [h])) k2
        · exact h
      have ha := addR c4.1 f2 (by rw [c4.2]; constructor <;> grind -abstractProof)
      rw [c4.2] at ha
      generalize add 4616189618054758400 gg = u at *
      obtain ⟨fu, u1, u2⟩ := ha
      have hs := subR fu f1 ⟨by grind -abstractProof, by grind -abstractProof⟩
      obtain ⟨fs, s1, s2⟩ := hs
      refine ⟨4 + c2' - c0, ⟨fs, by grind -abstractProof, by grind -abstractProof⟩, by grind -abstractProof, by grind -abstractProof, .inr (.inr ⟨by grind -abstractProof, small F4 b0.1 (by rw [hxb]; exact v5)⟩)⟩
end Mine.Internal
end
section
local macro_rules | `(tactic| omega) => `(tactic| lia)
noncomputable section -- FlP
open PySem PySem.Float64
namespace Mine.Internal
theorem hue_read {k : UInt64} {X : Rat} {p t n : Int} (t1 : 1 ≤ t) (t2 : t ≤ 60) (hk : Ap k X (350 * dl)) (x1 : -3 ≤ X) (x2 : X ≤ 7) (hX : X * (t : Rat) = 6 * ((p - t * n : Int) : Rat)) :
    ∃ Y : Int, 0 ≤ Y ∧ Y ≤ t ∧ (∃ m, Y = p - t * m) ∧ Ap (Float64.mul (Float64.divmod (Float64.div k 4618441417868443648) 4607182418800017408).snd (Float64.ofInt t)) (Y : Rat) (4000 * dl) := by
  have he : e0 = 1 / 2199023255552 := rfl
  have T1 : (1 : Rat) ≤ (t : Rat) := castL rfl t1
  have T2 : (t : Rat) ≤ 60 := castR rfl t2
  have bnd_t : (1 : Rat) ≤ (t : Rat) ∧ (t : Rat) ≤ 60 := ⟨T1, T2⟩
  have T0 : (0 : Rat) < (t : Rat) := posT T1
  obtain ⟨fk, k1, k2⟩ := hk
  have h6 : rv k / 6 * 6 = rv k := Rat.div_mul_cancel (by decide +kernel)
  have hd := divR fk c6.1 (by rw [c6.2]; decide +kernel) (by rw [c6.2]; walk_at "#rng")
  rw [c6.2] at hd
  generalize Float64.div k 4618441417868443648 = h at *
  obtain ⟨fh, d1, d2⟩ := hd
  obtain ⟨m, ⟨fy, y1, y2⟩, y3, y4⟩ := modR fh
  generalize (divmod h 4607182418800017408).snd = y at *
  have hYr : ((p - t * n - t * m : Int) : Rat) = (X / 6 - (m : Rat)) * (t : Rat) := by
    have h6X : X / 6 * 6 = X := Rat.div_mul_cancel (by decide +kernel)
    push_cast at hX ⊢; grind -abstractProof
  generalize hYd : p - t * n - t * m = Y at *
  have q1 := mulB (a := rv y - (X / 6 - (m : Rat))) (A := 61 * dl) (b := (t : Rat)) (B := 60) (by walk_at "#rng") (by first | exact t60 (by assumption) (by assumption) | (walk_at "#rng"))
  have q2 := Rat.mul_le_mul_of_nonneg_right y3 (Rat.le_of_lt T0)
  have q3 := Rat.mul_le_mul_of_nonneg_right y4 (Rat.le_of_lt T0)
  have Y1 : (-1 : Rat) < (Y : Rat) := by grind -abstractProof
  have Y2 : (Y : Rat) < (t : Rat) + 1 := by grind -abstractProof
  have Y3 : -1 < Y := Rat.intCast_lt_intCast.mp (by rw [show ((-1 : Int) : Rat) = -1 by decide +kernel]; exact Y1)
  have Y4 : Y < t + 1 := castS Y2
  have it := intR t (by omega)
  generalize ofInt t = b at *
  obtain ⟨fb, b1, b2⟩ := it
  have p2 := mulB (a := rv y) (A := 2) (b := rv b) (B := 60 + e0) (by walk_at "#rng") (by walk_at "#rng")
  have p3 := mulB (a := rv y) (A := 2) (b := rv b - (t : Rat)) (B := e0) (by walk_at "#rng") (by walk_at "#rng")
  obtain ⟨fm, m1, m2⟩ := mulR fy fb (by walk_at "#rng")
  exact ⟨Y, by omega, by omega, ⟨n + m, by rw [← hYd]; grind -abstractProof⟩, fm, by grind -abstractProof, by grind -abstractProof⟩
theorem ls_read {mx mn : UInt64} {lt K sh : Int} (h1 : 1 ≤ sh) (h2 : sh ≤ 8) (h3 : 1 ≤ lt) (h4 : lt ≤ 7) (hK : K = sh * min lt (8 - lt)) (fx : Fin mx) (fn : Fin mn)
    (x1 : rv mx ≤ (8 * (lt : Rat) + (K : Rat)) / 64 + dl) (x2 : (8 * (lt : Rat) + (K : Rat)) / 64 ≤ rv mx + dl) (n1 : rv mn ≤ (8 * (lt : Rat) - (K : Rat)) / 64 + dl) (n2 : (8 * (lt : Rat) - (K : Rat)) / 64 ≤ rv mn + dl) :
    nearB (Float64.mul (rgbL mx mn) (Float64.ofInt 8)) lt = true ∧ nearB (Float64.mul (rgbS mx mn) (Float64.ofInt 8)) sh = true ∧
    Float64.isZero (Float64.add mx mn) = false ∧ Float64.isZero (Float64.sub (Float64.sub 4611686018427387904 mx) mn) = false ∧ Float64.isZero (Float64.sub mx mn) = false ∧ eqF mn mx = false := by
  have he : e0 = 1 / 2199023255552 := rfl
  have r1 : (1 : Rat) ≤ (sh : Rat) := castL rfl h1
  have r2 : (sh : Rat) ≤ 8 := castR rfl h2
  have bnd_sh : (1 : Rat) ≤ (sh : Rat) ∧ (sh : Rat) ≤ 8 := ⟨r1, r2⟩
  have r3 : (1 : Rat) ≤ (lt : Rat) := castL rfl h3
  have r4 : (lt : Rat) ≤ 7 := castR rfl h4
  have bnd_lt : (1 : Rat) ≤ (lt : Rat) ∧ (lt : Rat) ≤ 7 := ⟨r3, r4⟩
  have hKb : 1 ≤ K ∧ K ≤ 32 := by rw [hK]; exact ⟨(minK h1 h2 h3 h4).1, (minK h1 h2 h3 h4).2.1⟩
  have K1 : (1 : Rat) ≤ (K : Rat) := castL rfl hKb.1
  have K2 : (K : Rat) ≤ 32 := castR rfl hKb.2
  have bnd_K : (1 : Rat) ≤ (K : Rat) ∧ (K : Rat) ≤ 32 := ⟨K1, K2⟩
  have ha := addR fx fn (by walk_at "#rng")
  have hs := subR fx fn (by walk_at "#rng")
  have ht := subR c2.1 fx (by rw [c2.2]; walk_at "#rng")
  rw [c2.2] at ht
  have hq : eqF mn mx = false := by
    cases h : eqF mn mx
    · rfl
    · have := (eq_iff fn fx).mp h
      grind -abstractProof
  rw [hq]
  unfold rgbS rgbL
  generalize add mx mn = a at *
  generalize sub mx mn = d at *
  generalize sub 4611686018427387904 mx = u at *
  obtain ⟨fa, a1, a2⟩ := ha
  obtain ⟨fd, d1, d2⟩ := hs
  obtain ⟨fu, u1, u2⟩ := ht
  have hv := subR fu fn (by walk_at "#rng")
  generalize sub u mn = v at *
  obtain ⟨fv, v1, v2⟩ := hv
  have nz : ∀ x, Fin x → 0 < rv x → isZero x = false := by
    intro x hx hp
    cases h : isZero x
    · rfl
    · have := (isZero_iff hx).mp h
      grind -abstractProof
  have h2d : rv a / 2 * 2 = rv a := Rat.div_mul_cancel (by decide +kernel)
  have hl := divR fa c2.1 (by rw [c2.2]; decide +kernel) (by rw [c2.2]; walk_at "#rng")
  rw [c2.2] at hl
  generalize div a 4611686018427387904 = l at *
  obtain ⟨fl, l1, l2⟩ := hl
  have i8 := intR 8 (by decide)
  have e8 : ((8 : Int) : Rat) = 8 := rfl
  rw [e8] at i8
  have times8 : ∀ (x : UInt64) (c : Int), Ap x ((c : Rat) / 8) (300 * dl) → 1 ≤ (c : Rat) → (c : Rat) ≤ 8 → Ap (Float64.mul x (Float64.ofInt 8)) (c : Rat) (3000 * dl) := by
    intro x c hx c1 c2
    obtain ⟨fx, x1, x2⟩ := hx
    generalize ofInt 8 = b at *
    obtain ⟨fb, b1, b2⟩ := i8
    have p2 := mulB (a := rv x) (A := 2) (b := rv b) (B := 8 + e0) (by walk_at "#rng") (by walk_at "#rng")
    have p3 := mulB (a := rv x) (A := 2) (b := rv b - 8) (B := e0) (by walk_at "#rng") (by walk_at "#rng")
    obtain ⟨fm, m1, m2⟩ := mulR fx fb (by walk_at "#rng")
    exact ⟨fm, by grind -abstractProof, by grind -abstractProof⟩
  have hle : (leB l 4602678819172646912 = true) ↔ rv l ≤ 1 / 2 := by
    unfold leB
    rw [Bool.or_eq_true, lt_iff fl ch.1, eq_iff fl ch.1, ch.2]
    constructor
    · rintro (h | h)
      · exact Rat.le_of_lt h
      · rw [h]; exact Rat.le_refl
    · intro h; exact (Rat.le_iff_lt_or_eq).mp h
  have q0 : 3000 * dl ≤ 1 / 2048 := by decide +kernel
  refine ⟨nearN (times8 l lt ⟨fl, by grind -abstractProof, by grind -abstractProof⟩ (by grind -abstractProof) (by grind -abstractProof)) q0 (by omega) (by omega), ?_, nz a fa (by grind -abstractProof), nz v fv (by grind -abstractProof), nz d fd (by grind -abstractProof), rfl⟩
  refine nearN (times8 _ sh ?_ (by grind -abstractProof) (by grind -abstractProof)) q0 (by omega) (by omega)
  by_cases hc : leB l 4602678819172646912 = true
  · rw [if_pos hc]
    have hc2 := hle.mp hc
    have j1 : (lt : Rat) < 5 := by grind -abstractProof
    have j2 : lt < 5 := by exact_mod_cast j1
    have hmin : min lt (8 - lt) = lt := by omega
    rw [hmin] at hK
    have hKr : (K : Rat) = (sh : Rat) * (lt : Rat) := by rw [hK, Rat.intCast_mul]
    have w := mulB (a := rv a - (lt : Rat) / 4) (A := 3 * dl) (b := (sh : Rat) / 8) (B := 1) (by walk_at "#rng") (by walk_at "#rng")
    exact (divNear (w := 1 / 5) (q := 40 * dl) fd fa (by decide +kernel) (by grind -abstractProof) (by grind -abstractProof) (by grind -abstractProof) (by walk_at "#rng") (by walk_at "#rng")).mono (by grind -abstractProof)
  · rw [if_neg hc]
    have hc2 : ¬ rv l ≤ 1 / 2 := fun h => hc (hle.mpr h)
    have j1 : 3 < (lt : Rat) := by grind -abstractProof
    have j2 : 3 < lt := by exact_mod_cast j1
    have hmin : min lt (8 - lt) = 8 - lt := by omega
    rw [hmin] at hK
    have hKr : (K : Rat) = (sh : Rat) * (8 - (lt : Rat)) := by rw [hK]; push_cast; rfl
    have w := mulB (a := rv v - (2 - (lt : Rat) / 4)) (A := 4 * dl) (b := (sh : Rat) / 8) (B := 1) (by walk_at "#rng") (by walk_at "#rng")
    exact (divNear (w := 1 / 5) (q := 40 * dl) fd fv (by decide +kernel) (by grind -abstractProof) (by grind -abstractProof) (by grind -abstractProof) (by walk_at "#rng") (by walk_at "#rng")).mono (by grind -abstractProof)
end Mine.Internal
end
noncomputable section -- FlQ
open PySem PySem.Float64
namespace Mine.Internal
theorem part_T {v : UInt64} {t lt K F : Int} (h : PartOk v t (8 * lt * t + K * (t - 2 * F))) :
    rv v * (t : Rat) ≤ (8 * (lt : Rat) + (K : Rat)) / 64 * (t : Rat) - (K : Rat) / 32 * (F : Rat) + dl ∧ (8 * (lt : Rat) + (K : Rat)) / 64 * (t : Rat) - (K : Rat) / 32 * (F : Rat) ≤ rv v * (t : Rat) + dl := by
  have he : e0 = 1 / 2199023255552 := rfl
  obtain ⟨_, h1, h2⟩ := h
  push_cast at h1 h2
  constructor <;> grind
theorem read_ok {p t sh lt : Int} (h1 : 1 ≤ sh) (h2 : sh ≤ 8) (h3 : 1 ≤ lt) (h4 : lt ≤ 7) (t1 : 1 ≤ t) (t2 : t ≤ 60) (p1 : -50 ≤ p) (p2 : p ≤ 49 + t) (p3 : p < 128) : ReadOk (hlsX p t sh lt) (hlsY p t sh lt) (hlsZ p t sh lt) p t sh lt := by
  have he : e0 = 1 / 2199023255552 := rfl
  obtain ⟨⟨x1, x2, x3⟩, ⟨y1, y2, y3⟩, ⟨z1, z2, z3⟩⟩ := hls_all (p := p) h1 h2 h3 h4 t1 t2 (by omega) (by omega)
  have T1 : (1 : Rat) ≤ (t : Rat) := castL rfl t1
  have T2 : (t : Rat) ≤ 60 := castR rfl t2
  have r3 : (1 : Rat) ≤ (lt : Rat) := castL rfl h3
  have r4 : (lt : Rat) ≤ 7 := castR rfl h4
  have hF := falls_of (p := p) t1
  have hdue : ∀ c, hlsDue p t sh lt c = 8 * lt * t + sh * min lt (8 - lt) * (t - 2 * fallI p t c) := fun _ => rfl
  rw [hdue] at x1 y1 z1
  clear hdue x2 x3 y2 y3 z2 z3
  generalize fallI p t 0 = F0 at *
  generalize fallI p t 2 = F2 at *
  generalize fallI p t 4 = F4 at *
  generalize hlsX p t sh lt = r at *
  generalize hlsY p t sh lt = g at *
  generalize hlsZ p t sh lt = b at *
  generalize hK : sh * min lt (8 - lt) = K at *
  have hKb : 1 ≤ K ∧ K ≤ 32 ∧ K ≤ 8 * lt ∧ K ≤ 64 - 8 * lt := hK ▸ minK h1 h2 h3 h4
  have K1 : (1 : Rat) ≤ (K : Rat) := castL rfl hKb.1
  have K2 : (K : Rat) ≤ 32 := castR rfl hKb.2.1
  have K3 : (K : Rat) ≤ 8 * (lt : Rat) := by exact_mod_cast Rat.intCast_le_intCast.mpr hKb.2.2.1
  have K4 : (K : Rat) ≤ 64 - 8 * (lt : Rat) := by exact_mod_cast Rat.intCast_le_intCast.mpr hKb.2.2.2
  have xr := part_T x1
  have yr := part_T y1
  have zr := part_T z1
  have fr := x1.1
  have fg := y1.1
  have fb := z1.1
  obtain ⟨fx, m1, m2, m3, m4⟩ := max3R fr fg fb
  obtain ⟨fn, n1, n2, n3, n4⟩ := min3R fr fg fb
  have hreads : ∀ mx mn, max3F r g b = mx → min3F r g b = mn →
      rdH r g b = rgbH mx mn r g b ∧ rdL r g b = rgbL mx mn ∧ rdS r g b = rgbS mx mn := by
    intro mx mn e1 e2; subst e1 e2; exact ⟨rfl, rfl, rfl⟩
  obtain ⟨e1, e2, e3⟩ := hreads _ _ rfl rfl
  have cF : ∀ F : Int, 0 ≤ F ∧ F ≤ t → (0 : Rat) ≤ (F : Rat) ∧ (F : Rat) ≤ (t : Rat) := fun F h =>
    ⟨by exact_mod_cast Rat.intCast_le_intCast.mpr h.1, by exact_mod_cast Rat.intCast_le_intCast.mpr h.2⟩
  have F0r := cF F0 hF.ra
  have F2r := cF F2 hF.rb
  have F4r := cF F4 hF.rc
  have top : (F0 : Rat) = 0 ∨ (F2 : Rat) = 0 ∨ (F4 : Rat) = 0 := by
    rcases hF.top with h | h | h
    · exact .inl (by rw [h]; rfl)
    · exact .inr (.inl (by rw [h]; rfl))
    · exact .inr (.inr (by rw [h]; rfl))
  have bot : (t : Rat) - (F0 : Rat) = 0 ∨ (t : Rat) - (F2 : Rat) = 0 ∨ (t : Rat) - (F4 : Rat) = 0 := by
    rcases hF.bot with h | h | h
    · exact .inl (by rw [h]; grind)
    · exact .inr (.inl (by rw [h]; grind))
    · exact .inr (.inr (by rw [h]; grind))
  have hmx := extR (m := rv (max3F r g b)) T1 (by rcases m4 with h | h | h <;> rw [h] <;> simp) m1 m2 m3 (show (0 : Rat) ≤ (K : Rat) / 32 by grind) F0r.1 F2r.1 F4r.1 top xr.1 xr.2 yr.1 yr.2 zr.1 zr.2
  have hmn := extR (m := - rv (min3F r g b)) (x := - rv r) (y := - rv g) (z := - rv b) (T := (t : Rat)) (M := -((8 * (lt : Rat) - (K : Rat)) / 64)) (D := (K : Rat) / 32) (a := (t : Rat) - (F0 : Rat)) (b := (t : Rat) - (F2 : Rat)) (c := (t : Rat) - (F4 : Rat)) T1 (by rcases n4 with h | h | h <;> rw [h] <;> simp) (by grind) (by grind) (by grind) (by grind) (by grind) (by grind) (by grind) bot
    (by grind) (by grind) (by grind) (by grind) (by grind) (by grind)
  generalize hmxd : max3F r g b = mx at *
  generalize hmnd : min3F r g b = mn at *
  obtain ⟨L1, L2, L3, L4, L5, L6⟩ := ls_read h1 h2 h3 h4 hK.symm fx fn hmx.1 hmx.2 (by grind) (by grind)
  obtain ⟨X, kX, X1, X2, hX⟩ := rgbK_near (M := (8 * (lt : Rat) + (K : Rat)) / 64) (D := (K : Rat) / 32) T1 T2 fx fn fr fg fb (by grind) (by grind) ⟨by grind, by grind⟩ hmx.1 hmx.2 (by grind) (by grind) m4 F0r F2r F4r xr.1 xr.2 yr.1 yr.2 zr.1 zr.2
  have hXn : ∃ n : Int, X * (t : Rat) = 6 * ((p - t * n : Int) : Rat) := by
    have i0 : ∀ F : Int, 0 ≤ F → (F : Rat) < 1 → F = 0 := by
      intro F h h'
      have : F < 1 := by exact_mod_cast h'
      omega
    rcases hX with ⟨e, h⟩ | ⟨e, h⟩ | ⟨e, h⟩
    · obtain ⟨n, hn⟩ := hF.pa (i0 _ hF.ra.1 h)
      refine ⟨n, ?_⟩
      rw [e]
      have := congrArg (Int.cast (R := Rat)) hn
      push_cast at this ⊢; exact this
    · obtain ⟨n, hn⟩ := hF.pb (i0 _ hF.rb.1 h)
      refine ⟨n, ?_⟩
      rw [e]
      have := congrArg (Int.cast (R := Rat)) hn
      push_cast at this ⊢; exact this
    · obtain ⟨n, hn⟩ := hF.pc (i0 _ hF.rc.1 h)
      refine ⟨n, ?_⟩
      rw [e]
      have := congrArg (Int.cast (R := Rat)) hn
      push_cast at this ⊢; exact this
  obtain ⟨n, hXn⟩ := hXn
  obtain ⟨Y, Y0, Yt, ⟨m, hY⟩, hz⟩ := hue_read t1 t2 kX X1 X2 hXn
  have hH : rgbH mx mn r g b = (Float64.divmod (Float64.div (rgbK mx mn r g b) 4618441417868443648) 4607182418800017408).snd := rfl
  have hp : p % t = if Y = t then 0 else Y := by
    have : p = Y + t * m := by omega
    rw [this, Int.add_mul_emod_self_left]
    split
    · rename_i h; rw [h, Int.emod_self]
    · exact Int.emod_eq_of_lt (by omega) (by omega)
  have q0 : 4000 * dl ≤ 1 / 2048 := by decide +kernel
  have hnear : nearB (Float64.mul (rdH r g b) (Float64.ofInt t)) Y = true := by
    rw [e1, hH]; exact nearN hz q0 (by omega) (by omega)
  have Yr0 : (0 : Rat) ≤ (Y : Rat) := castL rfl Y0
  have Yr1 : (Y : Rat) ≤ (t : Rat) := Rat.intCast_le_intCast.mpr Yt
  have hw : isFinite (Float64.add (Float64.mul (rdH r g b) (Float64.ofInt t)) 4602678819172646912) = true ∧ Flt.toInt truncOf (Float64.add (Float64.mul (rdH r g b) (Float64.ofInt t)) 4602678819172646912) = Y := by
    rw [e1, hH]
    generalize Float64.mul (divmod (div (rgbK mx mn r g b) 4618441417868443648) 4607182418800017408).snd (ofInt t) = z at *
    obtain ⟨fz, z1', z2'⟩ := hz
    have ha := addR fz ch.1 (by rw [ch.2]; constructor <;> grind)
    rw [ch.2] at ha
    generalize Float64.add z 4602678819172646912 = w at *
    obtain ⟨fw, w1, w2⟩ := ha
    obtain ⟨i1, i2⟩ := truncR fw (by grind)
    generalize Flt.toInt truncOf w = i at *
    have k1 : (i : Rat) < (Y : Rat) + 1 := by grind
    have k2 : (Y : Rat) < (i : Rat) + 1 := by grind
    have k3 : i < Y + 1 := castS k1
    have k4 : Y < i + 1 := castS k2
    exact ⟨fin_isFinite fw, by omega⟩
  refine ⟨by rw [hmxd, hmnd]; exact ⟨L6, L5, L3, L4⟩, by omega, by omega, ?_, ?_, hw.1, ?_, ?_⟩
  · rw [e2]; exact L1
  · rw [e3]; exact L2
  · rw [hw.2, Int.fmod_eq_emod_of_nonneg _ (by omega), hp]
    split
    · rename_i h; rw [h, Int.emod_self]
    · exact Int.emod_eq_of_lt (by omega) (by omega)
  · rw [hp]
    split
    · rename_i h; right; rw [show 0 + t = Y by omega]; exact hnear
    · left; exact hnear
end Mine.Internal
end
noncomputable section -- FlR
open PySem PySem.Float64
namespace Mine.Internal
noncomputable def armP (p t : Int) : Int := (p % t) * 6 / t
theorem arm_hsv {p t sh lv : Int} (h1 : 1 ≤ sh) (h2 : sh ≤ 8) (h3 : 1 ≤ lv) (h4 : lv ≤ 8) (t1 : 1 ≤ t) (t2 : t ≤ 60) (p1 : -50 ≤ p) (p2 : p ≤ 49 + t) :
    armFin (hsvR (divI (p + 50 * t) t) (divI sh 8) (divI lv 8)) ∧ armFin (hsvG (divI (p + 50 * t) t) (divI sh 8) (divI lv 8)) ∧ armFin (hsvB (divI (p + 50 * t) t) (divI sh 8) (divI lv 8)) ∧
    armP p t = armI (armX (hsvR (divI (p + 50 * t) t) (divI sh 8) (divI lv 8))) (armX (hsvG (divI (p + 50 * t) t) (divI sh 8) (divI lv 8))) (armX (hsvB (divI (p + 50 * t) t) (divI sh 8) (divI lv 8))) := by
  obtain ⟨_, _, x, y, z⟩ := hsv_all h1 h2 h3 h4 t1 t2 p1 p2
  obtain ⟨k, A, n, h, h0, h5, hk0, hk1, hke⟩ := place_parts (p := p) t1
  refine ⟨(armR x t1 t2).1, (armR y t1 t2).1, (armR z t1 t2).1, ?_⟩
  rw [arm_of (dec_hsv (lv := lv) h1 h3) t1 t2 h h0 h5 ⟨hk0, hk1⟩ x y z, hke, Int.mul_emod_mul_of_pos _ _ (by decide), armP, Int.mul_comm]
theorem arm_hls {p t sh lt : Int} (h1 : 1 ≤ sh) (h2 : sh ≤ 8) (h3 : 1 ≤ lt) (h4 : lt ≤ 7) (t1 : 1 ≤ t) (t2 : t ≤ 60) (p1 : -200 ≤ p) (p2 : p ≤ 200) :
    armFin (hlsX p t sh lt) ∧ armFin (hlsY p t sh lt) ∧ armFin (hlsZ p t sh lt) ∧ armP p t = armI (armX (hlsX p t sh lt)) (armX (hlsY p t sh lt)) (armX (hlsZ p t sh lt)) := by
  obtain ⟨x, y, z⟩ := hls_all h1 h2 h3 h4 t1 t2 p1 p2
  obtain ⟨k, A, n, h, h0, h5, hk0, hk1, hke⟩ := place_parts (p := p) t1
  refine ⟨(armR x t1 t2).1, (armR y t1 t2).1, (armR z t1 t2).1, ?_⟩
  have hK : 1 ≤ sh * min lt (8 - lt) := by
    have hm0 : 1 ≤ min lt (8 - lt) := by omega
    have := Int.mul_le_mul h1 hm0 (by decide) (by omega)
    omega
  rw [arm_of (dec_hls (lt := lt) hK) t1 t2 h h0 h5 ⟨hk0, hk1⟩ x y z, hke, Int.mul_emod_mul_of_pos _ _ (by decide), armP, Int.mul_comm]
end Mine.Internal
end
noncomputable section -- Kcomp
open PySem PySem.W PySem.Calls PyProof.Rows
namespace Mine.Internal
theorem compInv {prog : Program} {w : World} {A : Around} {h₀ : Heap} {L : Addr} {m : Str → Option Value} {env : Env} {elt : Expr} {x : Str} {scope : Scope} {cl : List (Str × Addr)} {s : Shared} {S : List (Addr × Obj) → Prop} {P : Nat → Value → Prop} {Fin : List Value → List (Addr × Obj) → Prop} {news : List (Addr × Obj)} {n : Nat}
    (Inv : Nat → List Value → List (Addr × Obj) → Prop) (start : Inv 0 [] news)
    (turn : ∀ i ys nw v I oI C oC D m₂ h tk (E' : Value → Shared → Prop), i < n → Inv i ys nw → P i v → LCg.NsObj oC m₂ → m₂ x = some v → Fr h₀ L h m → News h₀ L h ((I, oI) :: (C, oC) :: (D, LCg.lst ys) :: nw) → LCg.Off3 I C D nw → ((@Ne Nat I C) ∧ (@Ne Nat I D) ∧ (@Ne Nat C D)) →
      wpAny (model prog w) A (eval elt (compEnvC scope cl C env)) (LCg.CompEnd h₀ L m { s with heap := h, toks := tk } I oI C oC D (LCg.lst ys) S (fun y nw' => Inv (i + 1) (ys ++ [y]) nw')) E' { s with heap := h, toks := tk })
    (fin : ∀ ys nw, Inv n ys nw → Fin ys nw) : LCg.CompRest prog w A h₀ L m env elt x scope cl s S P Fin n 0 [] news := by
  have key : ∀ (j i : Nat) (ys : List Value) (nw : List (Addr × Obj)), i + j = n → Inv i ys nw → LCg.CompRest prog w A h₀ L m env elt x scope cl s S P Fin j i ys nw := by
    intro j
    induction j with
    | zero =>
      intro i ys nw hi hy
      have e : i = n := by omega
      subst e
      exact LCg.CompRest.zero (fin ys nw hy)
    | succ j ih =>
      intro i ys nw hi hy
      refine LCg.CompRest.succ ?_
      intro v I oI C oC D m₂ h tk E' hv hC hx F N off ne
      refine wpAny_mono (turn i ys nw v I oI C oC D m₂ h tk E' (by omega) hy hv hC hx F N off ne) (fun y s₂ hq => ?_) fun _ _ e => e
      obtain ⟨h', tk', nw', e, F', N', off', hS, hn⟩ := hq
      exact ⟨h', tk', nw', e, F', N', off', hS, ih (i + 1) _ _ (by omega) hn⟩
  exact key n 0 [] news (by omega) start
end Mine.Internal
end
end
noncomputable section -- Karms
theorem Mine.Internal.wTopOff23 : True := by w_top off; trivial
local macro_rules
  | `(tactic| walk_at $s:str) => match [("eval BinOp", "#bin"), ("spliced", "#args"), ("isTrue Compare", "#cmp"), ("exec Assign", "#asg"), ("exec Return some", "#ret"), ("storeName", "#sto"), ("#step", "#st3"), ("#on", "#skip"), ("#om", "#omKarms"), ("eval ListComp", "#o1Karms"), ("CompSrc", "#o2Karms"), ("call builtin:list.count", "#o3Karms")].lookup s.getString with
    | some r => `(tactic| walk_at $(Lean.Syntax.mkStrLit r))
    | none => Lean.Macro.throwUnsupported
theorem Mine.Internal.kwN_Karms : True := by
  k_with "#omKarms" => (first | decide | (with_reducible first | assumption | walk_at "#nz" | exact Nat.succ_le_of_lt ‹_› | exact Mine.Internal.u0 ‹_› | exact Mine.Internal.u1 ‹_› (by decide) | exact Mine.Internal.u2 ‹_› (by decide) | exact Mine.Internal.u3 ‹_› (by decide) | exact Mine.Internal.leC ‹_› (by decide) | exact Mine.Internal.ltC ‹_› (by decide) | exact Mine.Internal.ltD ‹_› (by decide) | exact Mine.Internal.leD ‹_› (by decide) | exact Mine.Internal.iltC ‹_› (by decide) | exact Mine.Internal.ileC ‹_› (by decide) | exact Mine.Internal.iltD ‹_› (by decide) | exact Mine.Internal.ileD ‹_› (by decide) | exact Mine.Internal.igtC ‹_› (by decide) | exact Mine.Internal.igeC ‹_› (by decide) | exact Mine.Internal.igtP ‹_› (by decide) | exact Mine.Internal.igeP ‹_› (by decide) | exact Mine.Internal.cltC ‹_› (by decide) | exact Mine.Internal.cleC ‹_› (by decide) | exact Mine.Internal.cgtC (by decide) | exact Mine.Internal.cgeC (by decide) | exact Mine.Internal.leE ‹_› ‹_› (by decide) | exact Mine.Internal.ltE ‹_› ‹_› (by decide) | exact Mine.Internal.cltE ‹_› ‹_› (by decide) | exact Mine.Internal.cltF ‹_› ‹_› (by decide) | exact Mine.Internal.cleF ‹_› ‹_› (by decide) | exact Mine.Internal.leF ‹_› ‹_› (by decide) | fail "om: none"))
  trivial
open PySem PySem.W PyProof.Rows
namespace Mine.Internal
set_option Elab.async false
theorem Mine.Internal.kw1_Karms : True := by
  k_with "#o1Karms" => (k_here; k_dflt (refine LCg.ListComp_U (F₀ := by k_asm) (by rfl) (by decide) (by rfl) (by decide) (by rfl) ?_))
  k_with "#o2Karms" => (k_here; k_dflt (refine LCg.CompSrc.base (by rfl) (by k_asm) (by k_asm) (by assumption) (by assumption) ?_; intro g'))
  k_with "#o3Karms" => (k_here; (try dsimp only); (simp only [List.cons_append, List.nil_append]); (with_reducible show wpAny _ _ (call (Value.builtin _) [Value.ref _, Value.int _ _]) _ _ _); k_dflt (refine count_list_ints (by is_list) (by assumption) ?_))
  trivial
noncomputable def ColArm (h : Heap) (v : Value) (k : Int) : Prop := ∃ d r g b t1 t2 t3 n, v = .ref d ∧ h.get? d = some (W.listOf #[.float r t1, .float g t2, .float b t3] n) ∧ armFin r ∧ armFin g ∧ armFin b ∧ k = armI (armX r) (armX g) (armX b)
noncomputable def arms_spec_k : Σ' (P1 : World → Addr → (Array Value) → (List Int) → (ExcName → Option Value) → (Str → Option Value) → (Str → Option Value) → Nat → Nat → (Option (List Code)) → Str → Scope → Addr → Value → (List (Str × Addr)) → (List Env) → Around → Heap → Heap → Addr → (Str → Option Value) → Shared → (Value → Shared → Prop) → (Value → Shared → Prop) → Addr → Heap → Nat → Obj → Prop), (∀ w D vs ks mean mg mb dp un gd cn cs a ccd cl outer A₀ base h₀ L m s Q E L' h' tk' ozz0y1, P1 w D vs ks mean mg mb dp un gd cn cs a ccd cl outer A₀ base h₀ L m s Q E L' h' tk' ozz0y1) → ∀ (w : World) (D : Addr) (vs : Array Value) (ks : List Int), CtrK w 12 120 193 [.ref D] (fun h => h.IsList D vs ∧ vs.size ≤ 1000 ∧ ks.length = vs.size ∧ ∀ (i : Nat) v, vs[i]? = some v → ∃ k, ks[i]? = some k ∧ ColArm h v k)
      (fun s Q => ∀ (d dl : Addr) (ys : List Value) (n : Nat) (t : Tok) (hz : Heap) (tz : Nat), Keep s.heap hz → s.heap.get? d = none → s.heap.get? dl = none → hz.get? d = some { cls := Value.type "tuple", data := Data.seq #[.ref dl, .int (ks.count 6 : Nat) t] } → hz.get? dl = some (W.listOf ys.toArray n) → IntsAre ys ((rangeKs 0 6).map fun k => ((ks.count k : Nat) : Int)) → d ≠ dl → Q (.ref d) { s with heap := hz, toks := tz }) := ⟨_, by
  intro hP_1 w D vs ks
  dsimp only [CtrK, P0, LS]
  k_fill
  intro mean mg mb dp un gd cn cs a ccd cl outer A₀ base h₀ L m s Q E B F X T hk hpre hdp hun hret
  obtain ⟨hL, hsz0, hkl, hcol⟩ := hpre
  have hsz : vs.size ≤ sizeLine := by rw [sizeLine_eq]; omega
  refine wpAny_call ?_
  k_dflt (refine' enterPC ?k1 ?k2 ?k3 ?k5 ?kA ?kF ?kK ?k6 ?k7 ?k8 ?k9 ?kB ?kD ?_ ?c2 ?c3 ?c4; (case kA => exact rfl); (case kF => exact rfl); (case kK => assumption); (case k1 => k_asm); (case k2 => k_asm); (case k3 => k_asm); (case k5 => k_asm); (case k6 => k_is); (case k7 => k_is); (case k8 => ktr_room); (case k9 => exact BindsTo.of_eq rfl); (case kB => exact rfl); (case kD => decide +kernel); (case c2 => exact rfl); (case c3 => exact rfl); (case c4 => exact rfl); k_whole)
  intro L' h' tk' cells' F' N' Y' B' X' T'
  k_cells Y'
  (try simp only [List.cons_append, List.nil_append] at N')
  (try dsimp only)
  (try k_lift B')
  (try k_fold)
  rename_i ozz0y1 dzz0y2
  revert B F X T hk hdp hun hret hL hsz0 hkl hcol hsz F' B' X' T' dzz0y2 N'
  exact hP_1 w D vs ks mean mg mb dp un gd cn cs a ccd cl outer A₀ base h₀ L m s Q E L' h' tk' ozz0y1⟩
noncomputable def arms_spec_R (z : Sk) : Prop := arms_spec_k.1 (z.w 0) (z.a 0) (z.av 0) (z.li 0) (z.em 0) (z.m 0) (z.m 1) (z.n 0) (z.n 1) (z.oc 0) (z.x 0) (z.sc 0) (z.a 1) (z.v 0) (z.sa 0) (z.le 0) (z.ar 0) (z.h 0) (z.h 1) (z.a 2) (z.m 2) (z.s 0) (z.q 0) (z.q 1) (z.a 3) (z.h 2) (z.n 2) (z.o 0)
namespace arms_spec_c
def w := (skv arms_spec_R).w 0
def D := (skv arms_spec_R).a 0
def ks := (skv arms_spec_R).li 0
theorem r1 : arms_spec_k.1 w D ((skv arms_spec_R).av 0) ks ((skv arms_spec_R).em 0) ((skv arms_spec_R).m 0) ((skv arms_spec_R).m 1) ((skv arms_spec_R).n 0) ((skv arms_spec_R).n 1) ((skv arms_spec_R).oc 0) ((skv arms_spec_R).x 0) ((skv arms_spec_R).sc 0) ((skv arms_spec_R).a 1) ((skv arms_spec_R).v 0) ((skv arms_spec_R).sa 0) ((skv arms_spec_R).le 0) ((skv arms_spec_R).ar 0) ((skv arms_spec_R).h 0) ((skv arms_spec_R).h 1) ((skv arms_spec_R).a 2) ((skv arms_spec_R).m 2) ((skv arms_spec_R).s 0) ((skv arms_spec_R).q 0) ((skv arms_spec_R).q 1) ((skv arms_spec_R).a 3) ((skv arms_spec_R).h 2) ((skv arms_spec_R).n 2) ((skv arms_spec_R).o 0) := by
  intro B F X T hk hdp hun hret hL hsz0 hkl hcol hsz F' B' X' T' dzz0y2 N'
  w_on
  k_steps
  (with_reducible rename News _ _ _ _ => kN)
  refine compInv (fun i ys nw => nw = _ ∧ IntsAre ys (ks.take i)) ⟨rfl, .nil⟩ ?_ ?_
  · intro i ys nw v I oI C oC D m₂ h tk E' hi hInv hP hC hx F N off ne
    obtain ⟨rfl, hI⟩ := hInv
    obtain ⟨k, hk1, d, r, g, b, t1, t2, t3, n, rfl, hd, hf1, hf2, hf3, rfl⟩ := hcol i v hP
    have off0 := off
    k_steps
    k_here
    k_dflt (refine' arm_spec w d r g b t1 t2 t3 n _ _ _ _ _ _ _ _ _ _ _ _ _ _ _ _ _ _ _ _ ?k1 ?k2 ?k3 ?k5 ?k6 ?k8 ?k9 ?k10 ?_; (case k1 => k_asm); (case k2 => k_asm); (case k3 => k_asm); (case k5 => k_asm); (case k6 => exact rfl); (case k8 => exact ⟨F.keep _ _ hd, hf1, hf2, hf3⟩); (case k9 => ktr_room); (case k10 => ktr_units); k_whole)
    intro t9 h9 tk9 kp9
    refine ⟨h9, tk9, _, rfl, frKeep F kp9, newsKeep N kp9, off0, ?_, rfl, ?_⟩
    · exact .inl hL
    · rw [List.take_add_one, hk1]
      simpa using IntsAre.append hI (.cons _ t9 .nil)
  · rintro ys nw ⟨rfl, hI⟩
    rw [← hkl, List.take_length] at hI
    k_steps
    (with_reducible rename Fr _ _ _ _ => zF)
    (with_reducible rename News _ _ _ _ => zN)
    have z1 := zN _ (.head _)
    have z2 := zN _ (.tail _ (.head _))
    rename_i l1
    exact hret _ _ _ _ _ _ _ zF.keep z1.2.2 z2.2.2 z1.1 z2.1 (by assumption) (Nat.ne_of_gt l1.1)
end arms_spec_c
theorem arms_spec (w : World) (D : Addr) (vs : Array Value) (ks : List Int) : CtrK w 12 120 193 [.ref D] (fun h => h.IsList D vs ∧ vs.size ≤ 1000 ∧ ks.length = vs.size ∧ ∀ (i : Nat) v, vs[i]? = some v → ∃ k, ks[i]? = some k ∧ ColArm h v k)
      (fun s Q => ∀ (d dl : Addr) (ys : List Value) (n : Nat) (t : Tok) (hz : Heap) (tz : Nat), Keep s.heap hz → s.heap.get? d = none → s.heap.get? dl = none → hz.get? d = some { cls := Value.type "tuple", data := Data.seq #[.ref dl, .int (ks.count 6 : Nat) t] } → hz.get? dl = some (W.listOf ys.toArray n) → IntsAre ys ((rangeKs 0 6).map fun k => ((ks.count k : Nat) : Int)) → d ≠ dl → Q (.ref d) { s with heap := hz, toks := tz }) :=
  arms_spec_k.2 (fun w D vs ks mean mg mb dp un gd cn cs a ccd cl outer A₀ base h₀ L m s Q E L' h' tk' ozz0y1 => skva arms_spec_R arms_spec_c.r1 (sk_w w <| sk_a D <| sk_av vs <| sk_li ks <| sk_em mean <| sk_m mg <| sk_m mb <| sk_n dp <| sk_n un <| sk_oc gd <| sk_x cn <| sk_sc cs <| sk_a a <| sk_v ccd <| sk_sa cl <| sk_le outer <| sk_ar A₀ <| sk_h base <| sk_h h₀ <| sk_a L <| sk_m m <| sk_s s <| sk_q Q <| sk_q E <| sk_a L' <| sk_h h' <| sk_n tk' <| sk_o ozz0y1 <| dS)) w D vs ks
end Mine.Internal
end
section
local macro_rules | `(tactic| omega) => `(tactic| lia)
noncomputable section -- WsM
open PySem
namespace Mine.Internal
set_option linter.unusedSimpArgs false
structure WS where
  cnt : List Int
  b : Nat
  n : Nat
  nt : Nat
noncomputable def bump (c : List Int) (b : Nat) : List Int :=
  let d := if b ≥ c.length then c ++ List.replicate (b - c.length + 1) 0 else c
  d.set b (d.getD b 0 + 1)
noncomputable def WS.step (s : WS) (c : Nat) : WS := if c = 32 then ⟨s.cnt, s.b + 1, s.n + 1, s.nt⟩ else ⟨bump s.cnt s.b, 0, s.n + 1, s.nt + 1⟩
noncomputable def leadTxt (ks : List Nat) : List Nat := ks.flatMap fun k => List.replicate k 32 ++ [9]
noncomputable def cntOf (ks : List Nat) : List Int := ks.foldl bump []
theorem spaces (k : Nat) : ∀ s : WS, (List.replicate k 32).foldl WS.step s = ⟨s.cnt, s.b + k, s.n + k, s.nt⟩ := by
  induction k with
  | zero => intro s; rfl
  | succ k ih => intro s; rw [List.replicate_succ, List.foldl_cons, ih]; simp [WS.step]; omega
theorem lead_runs (ks : List Nat) : ∀ (c : List Int) (n nt : Nat), (leadTxt ks).foldl WS.step ⟨c, 0, n, nt⟩ = ⟨ks.foldl bump c, 0, n + ks.sum + ks.length, nt + ks.length⟩ := by
  induction ks with
  | nil => intros; rfl
  | cons k ks ih =>
    intro c n nt
    simp only [leadTxt, List.flatMap_cons, List.foldl_append, spaces, List.foldl_cons, List.foldl_nil]
    have e := ih (bump c k) (n + k + 1) (nt + 1)
    simp only [leadTxt] at e
    simp only [WS.step, show (9:Nat) ≠ 32 by decide, if_false, Nat.zero_add]
    rw [e]
    simp only [List.sum_cons, List.length_cons, WS.mk.injEq, true_and]
    omega
theorem lead_all (ks : List Nat) (tail : Nat) : (leadTxt ks ++ List.replicate tail 32).foldl WS.step ⟨[], 0, 0, 0⟩ = ⟨cntOf ks, tail, ks.sum + ks.length + tail, ks.length⟩ := by
  rw [List.foldl_append, lead_runs, spaces]; simp [cntOf]
noncomputable def cntQ (q x y : Nat) : List Int := if 0 < y then List.replicate q 0 ++ [(x : Int), (y : Int)] else if 0 < x then List.replicate q 0 ++ [(x : Int)] else []
theorem bump_q (q x y : Nat) : bump (cntQ q x y) q = cntQ q (x + 1) y := by
  unfold bump cntQ
  by_cases hy : 0 < y
  · simp [hy, show ¬ (q + 2 ≤ q) by omega, List.set_append, List.getElem?_append]
  · by_cases hx : 0 < x
    · simp [hy, hx, show ¬ (q + 1 ≤ q) by omega, List.set_append, List.getElem?_append]
    · have : x = 0 := by omega
      subst this
      simp [hy, List.replicate_succ', List.set_append, List.getElem?_append]
theorem bump_q1 (q x y : Nat) : bump (cntQ q x y) (q + 1) = cntQ q x (y + 1) := by
  unfold bump cntQ
  by_cases hy : 0 < y
  · simp [hy, List.set_append, List.getElem?_append]
  · have : y = 0 := by omega
    subst this
    by_cases hx : 0 < x
    · simp [hx, List.set_append, List.getElem?_append]
    · have : x = 0 := by omega
      subst this
      have e : (List.replicate (q + 1 + 1) (0 : Int)) = List.replicate q 0 ++ [0, 0] := by
        rw [List.replicate_succ', List.replicate_succ', List.append_assoc]; rfl
      simp [e, List.set_append, List.getElem?_append]
theorem cnt_two (q : Nat) : ∀ (ks : List Nat) (x y : Nat), (∀ k ∈ ks, k = q ∨ k = q + 1) → ks.foldl bump (cntQ q x y) = cntQ q (x + ks.count q) (y + ks.count (q + 1))
  | [], x, y, _ => by simp
  | k :: ks, x, y, h => by
    have ih := fun x y => cnt_two q ks x y fun k hk => h k (.tail _ hk)
    rcases h k (.head _) with rfl | rfl
    · rw [List.foldl_cons, bump_q, ih, List.count_cons_self, List.count_cons_of_ne (by omega)]; congr 1; omega
    · rw [List.foldl_cons, bump_q1, ih, List.count_cons_self, List.count_cons_of_ne (by omega)]; congr 1; omega
theorem cntOf_two {q : Nat} {ks : List Nat} (h : ∀ k ∈ ks, k = q ∨ k = q + 1) : cntOf ks = cntQ q (ks.count q) (ks.count (q + 1)) := by
  have := cnt_two q ks 0 0 h
  simpa [cntOf, cntQ] using this
theorem bump_zero_ne {c : List Int} (h : c ≠ []) : bump c 0 ≠ c := by
  cases c with
  | nil => exact absurd rfl h
  | cons a c =>
    intro e
    simp [bump] at e
    omega
theorem cntOf_snoc (ks : List Nat) (k : Nat) : cntOf (ks ++ [k]) = bump (cntOf ks) k := by simp [cntOf, List.foldl_append]
noncomputable def colL (size : Int) : Nat → List Int → Int
  | _, [] => 0
  | i, c :: cs => (i : Int).fdiv size * c + colL size (i + 1) cs
theorem colL_append (size : Int) : ∀ (i : Nat) (c d : List Int), colL size i (c ++ d) = colL size i c + colL size (i + c.length) d
  | i, [], d => by simp [colL]
  | i, a :: c, d => by
    rw [List.cons_append, colL, colL, colL_append size (i + 1) c d, List.length_cons, Int.add_assoc, show i + 1 + c.length = i + (c.length + 1) by omega]
theorem colL_zero (size : Int) : ∀ (i : Nat) (k : Nat), colL size i (List.replicate k 0) = 0
  | i, 0 => rfl
  | i, k + 1 => by rw [List.replicate_succ, colL, colL_zero size (i + 1) k]; simp
theorem colL_low (size : Nat) : ∀ (i : Nat) (c : List Int), i + c.length ≤ size → colL size i c = 0
  | i, [], _ => rfl
  | i, a :: c, h => by
    rw [List.length_cons] at h
    rw [colL, colL_low size (i + 1) c (by omega), Int.fdiv_eq_ediv_of_nonneg _ (by omega), Int.ediv_eq_zero_of_lt (by omega) (by omega)]; simp
noncomputable def colI (size : Nat) (c : List Int) : Int := colL size size (c.drop size)
theorem colI_eq (size : Nat) (c : List Int) : colI size c = colL size 0 c := by
  unfold colI
  by_cases h : c.length ≤ size
  · rw [List.drop_eq_nil_of_le h, colL_low size 0 c (by omega)]; rfl
  · have e := colL_append size 0 (c.take size) (c.drop size)
    rw [List.take_append_drop, colL_low size 0 (c.take size) (by rw [List.length_take]; omega), List.length_take, Nat.min_eq_left (by omega)] at e
    rw [e]; simp
theorem colI_cntQ (size q x y : Nat) : colI size (cntQ q x y) = (q : Int).fdiv size * x + ((q : Int) + 1).fdiv size * y := by
  rw [colI_eq]
  unfold cntQ
  by_cases hy : 0 < y
  · rw [if_pos hy, colL_append, colL_zero]; simp [colL]
  · have : y = 0 := by omega
    subst this
    by_cases hx : 0 < x
    · rw [if_neg hy, if_pos hx, colL_append, colL_zero]; simp [colL]
    · have : x = 0 := by omega
      subst this
      simp [colL]
end Mine.Internal
namespace Mine.Internal
theorem bump_len (c : List Int) (b : Nat) : (bump c b).length = if b ≥ c.length then b + 1 else c.length := by
  unfold bump
  by_cases h : b ≥ c.length
  · simp [h]; omega
  · simp [h]
theorem step_len (s : WS) (c n : Nat) (h : s.b ≤ n ∧ s.cnt.length ≤ n) : (s.step c).b ≤ n + 1 ∧ (s.step c).cnt.length ≤ n + 1 := by
  unfold WS.step
  split
  · dsimp only; exact ⟨by omega, by omega⟩
  · refine ⟨by simp, ?_⟩
    dsimp only
    rw [bump_len]; split <;> omega
noncomputable def wsAt (l : List Nat) (i : Nat) : WS := (l.take i).foldl WS.step ⟨[], 0, 0, 0⟩
theorem wsAt_zero (l : List Nat) : wsAt l 0 = ⟨[], 0, 0, 0⟩ := by simp [wsAt]
theorem wsAt_succ {l : List Nat} {i c : Nat} (h : l[i]? = some c) : wsAt l (i + 1) = (wsAt l i).step c := by
  unfold wsAt
  rw [List.take_add_one, h, List.foldl_append]; rfl
theorem wsAt_len (l : List Nat) : ∀ i, i ≤ l.length → (wsAt l i).b ≤ i ∧ (wsAt l i).cnt.length ≤ i
  | 0, _ => by simp [wsAt]
  | i + 1, h => by
    rw [wsAt_succ (List.getElem?_eq_getElem (by omega))]
    exact step_len _ _ _ (wsAt_len l i (by omega))
theorem leadTxt_len (ks : List Nat) : (leadTxt ks).length = ks.sum + ks.length ∧ ((ks.map fun k => List.replicate k 32 ++ [9]).map (·.length)).sum = ks.sum + ks.length := by
  induction ks with
  | nil => simp [leadTxt]
  | cons k ks ih =>
    simp only [leadTxt, List.flatMap_cons, List.map_cons, List.length_append, List.length_replicate, List.length_cons, List.length_nil, List.sum_cons] at ih ⊢
    omega
theorem leadTxt_mem {ks : List Nat} {c : Nat} (h : c ∈ leadTxt ks) : c = 32 ∨ c = 9 := by
  unfold leadTxt at h
  obtain ⟨k, _, hc⟩ := List.mem_flatMap.mp h
  rcases List.mem_append.mp hc with hc | hc
  · exact .inl (List.eq_of_mem_replicate hc)
  · exact .inr (List.mem_singleton.mp hc)
theorem lead_at {W : List Nat} (hW : ∀ c ∈ W, c = 32 ∨ c = 9) {tail i c : Nat} (h : (W ++ List.replicate tail 32 ++ [10, 9, 32])[i]? = some c) (hi : i ≤ W.length + tail) :
    (i < W.length + tail ∧ (c = 32 ∨ c = 9) ∧ (W ++ List.replicate tail 32)[i]? = some c) ∨ (i = W.length + tail ∧ c = 10) := by
  by_cases h1 : i < W.length + tail
  · have e : (W ++ List.replicate tail 32)[i]? = some c := by
      rw [List.getElem?_append_left (by simp; omega)] at h; exact h
    refine .inl ⟨h1, ?_, e⟩
    rcases List.mem_append.mp (List.mem_of_getElem? e) with hc | hc
    · exact hW c hc
    · exact .inl (List.eq_of_mem_replicate hc)
  · have : i = W.length + tail := by omega
    refine .inr ⟨this, ?_⟩
    rw [List.getElem?_append_right (by simp; omega)] at h
    simp [this] at h
    exact h.symm
end Mine.Internal
namespace Mine.Internal
theorem mem_le_sum : ∀ {ks : List Nat} {k : Nat}, k ∈ ks → k ≤ ks.sum
  | a :: ks, k, h => by
    rw [List.sum_cons]
    rcases List.mem_cons.mp h with rfl | h
    · omega
    · have := mem_le_sum h; omega
end Mine.Internal
end
noncomputable section -- DealM
open PySem
namespace Mine.Internal
structure Two (ks : List Nat) : Prop where
  l1 : 1 ≤ ks.length
  l2 : ks.length ≤ 8
  s : ks.sum ≤ 12
  two : ∀ k ∈ ks, k = ks.sum / ks.length ∨ k = ks.sum / ks.length + 1
theorem count_two {q : Nat} : ∀ {ks : List Nat}, (∀ k ∈ ks, k = q ∨ k = q + 1) → ks.count q + ks.count (q + 1) = ks.length ∧ ks.sum = ks.length * q + ks.count (q + 1)
  | [], _ => by simp
  | k :: ks, h => by
    have ih := count_two (ks := ks) fun k hk => h k (.tail _ hk)
    rw [List.sum_cons, List.length_cons, Nat.add_mul]
    rcases h k (.head _) with rfl | rfl
    · rw [List.count_cons_self, List.count_cons_of_ne (by omega)]; omega
    · rw [List.count_cons_self, List.count_cons_of_ne (by omega)]; omega
theorem cnt_deal {ks : List Nat} {q r A : Nat} (h : ∀ k ∈ ks, k = q ∨ k = q + 1) (hA : ks.length = A) (hr : ks.sum % A = r) (hq : ks.sum / A = q) (h1 : 1 ≤ A) : cntOf ks = cntQ q (A - r) r := by
  have h2 := count_two h
  have h3 := Nat.div_add_mod ks.sum A
  rw [hr, hq] at h3
  rw [hA] at h2
  rw [cntOf_two h]
  congr 1 <;> omega
noncomputable def aheadN (q A r : Nat) : List Nat := List.replicate r (q + 1) ++ List.replicate (A - r) q
theorem ahead_two (q A r : Nat) : ∀ k ∈ aheadN q A r, k = q ∨ k = q + 1 := by
  intro k hk
  rcases List.mem_append.mp hk with h | h
  · exact .inr (List.eq_of_mem_replicate h)
  · exact .inl (List.eq_of_mem_replicate h)
theorem ahead_len {q A r : Nat} (h : r < A) : (aheadN q A r).length = A := by simp [aheadN]; omega
theorem ahead_sum {q A r : Nat} (h : r < A) : (aheadN q A r).sum = q * A + r := by
  simp only [aheadN, List.sum_append, List.sum_replicate_nat]
  obtain ⟨d, rfl⟩ : ∃ d, A = r + d := ⟨A - r, by omega⟩
  rw [Nat.add_sub_cancel_left, Nat.mul_add, Nat.mul_add, Nat.mul_comm q r, Nat.mul_comm q d]
  omega
theorem cnt_ahead {q A r : Nat} (h : r < A) : cntOf (aheadN q A r) = cntQ q (A - r) r := by
  rw [cntOf_two (ahead_two q A r)]
  simp only [aheadN, List.count_append, List.count_replicate]
  congr 1 <;> simp
theorem cntQ_len {q A r : Nat} (h : r < A) : (cntQ q (A - r) r).length = q + (if 0 < r then 2 else 1) := by
  unfold cntQ
  by_cases h1 : 0 < r
  · simp [h1]
  · simp [h1, show 0 < A - r by omega]
theorem cntQ_mem {q A r : Nat} (h : r < A) (hA : A ≤ 8) : ∀ v ∈ cntQ q (A - r) r, 0 ≤ v ∧ v ≤ 100 := by
  intro v hv
  unfold cntQ at hv
  by_cases h1 : 0 < r
  · simp [h1] at hv; rcases hv with h2 | h2 | h2
    · omega
    · omega
    · omega
  · simp [h1, show 0 < A - r by omega] at hv; rcases hv with h2 | h2 <;> omega
theorem cntQ_ne {q A r : Nat} (h : r < A) : cntQ q (A - r) r ≠ [] := by
  intro e
  have := cntQ_len (q := q) h
  rw [e] at this; simp at this; split at this <;> omega
theorem cnt_more {q A r : Nat} (h : r < A) : cntOf (aheadN q A r ++ [0]) ≠ cntQ q (A - r) r := by
  rw [cntOf_snoc, cnt_ahead h]
  exact bump_zero_ne (cntQ_ne h)
theorem col_deal {q A r : Nat} (size : Nat) (h : r < A) : (r : Int) + size * (colI size (cntQ q (A - r) r) + A) = (((A : Int) - r) * ((q : Int).fdiv size + 1) + r * (((q : Int) + 1).fdiv size + 1)) * size + r := by
  rw [colI_cntQ]
  have e : ((A - r : Nat) : Int) = (A : Int) - r := by omega
  rw [e]
  generalize (q : Int).fdiv size = a
  generalize ((q : Int) + 1).fdiv size = b
  grind
end Mine.Internal
end
noncomputable section -- Cnt
open PySem
namespace Mine.Internal
noncomputable def placesL (h : Nat) (s b : Int) : List Int := (List.range h).map fun j : Nat => b + s * (j : Int)
theorem shiftP : ∀ h < 13, ∀ m < h, ((List.range h).map fun j => (m + j) % h).Perm (List.range h) := by decide +kernel
noncomputable def runN (h s c N k : Nat) : Nat := ((List.range h).map fun i => (s * i + c) * N / (h * s)).count k
noncomputable def chkRun (h s c N : Nat) : Bool :=
  let ks := (List.range N).map (runN h s c N)
  ks.sum == h && ks.all fun k => k == h / N || k == h / N + 1
theorem chkAll : ((List.range 12).all fun h => (List.range 5).all fun s => (List.range (s + 1)).all fun c => (List.range 8).all fun N => chkRun (h + 1) (s + 1) c (N + 1)) = true := by decide +kernel
theorem chk {h s c N : Nat} (h1 : 1 ≤ h) (h2 : h ≤ 12) (s1 : 1 ≤ s) (s2 : s ≤ 5) (hc : c < s) (n1 : 1 ≤ N) (n2 : N ≤ 8) : chkRun h s c N = true := by
  have a := List.all_eq_true.mp chkAll (h - 1) (List.mem_range.mpr (by omega))
  have b := List.all_eq_true.mp a (s - 1) (List.mem_range.mpr (by omega))
  have d := List.all_eq_true.mp b c (List.mem_range.mpr (by omega))
  have e := List.all_eq_true.mp d (N - 1) (List.mem_range.mpr (by omega))
  rwa [show h - 1 + 1 = h by omega, show s - 1 + 1 = s by omega, show N - 1 + 1 = N by omega] at e
theorem place_mod {h s : Nat} {b : Int} (h1 : 1 ≤ h) (s1 : 1 ≤ s) (j : Nat) :
    (b + (s : Int) * (j : Int)) % ((h : Int) * (s : Int)) = ((s * ((((b / (s : Int)) % (h : Int)).toNat + j) % h) + (b % (s : Int)).toNat : Nat) : Int) := by
  have e1 := Int.mul_ediv_add_emod b (s : Int)
  have c0 := Int.emod_nonneg b (show (s : Int) ≠ 0 by omega)
  have c1 := Int.emod_lt_of_pos b (show (0 : Int) < (s : Int) by omega)
  have m0 := Int.emod_nonneg (b / (s : Int)) (show (h : Int) ≠ 0 by omega)
  have e2 := Int.mul_ediv_add_emod (b / (s : Int)) (h : Int)
  obtain ⟨c, hc⟩ : ∃ c : Nat, b % (s : Int) = c := ⟨(b % (s : Int)).toNat, by omega⟩
  obtain ⟨m, hm⟩ : ∃ m : Nat, b / (s : Int) % (h : Int) = m := ⟨(b / (s : Int) % (h : Int)).toNat, by omega⟩
  rw [hc] at e1 c1
  rw [hm] at e2
  rw [hc, hm, Int.toNat_natCast, Int.toNat_natCast]
  have hb : b + (s : Int) * (j : Int) = ((s * (m + j) + c : Nat) : Int) + (h : Int) * (s : Int) * (b / (s : Int) / (h : Int)) := by
    have e3 : (s : Int) * (b / (s : Int)) = (s : Int) * ((h : Int) * (b / (s : Int) / (h : Int)) + (m : Int)) := congrArg _ e2.symm
    generalize b / (s : Int) / (h : Int) = q at *
    generalize b / (s : Int) = r at *
    push_cast
    grind
  rw [hb, Int.add_mul_emod_self_left, ← Int.natCast_mul, ← Int.natCast_emod]
  congr 1
  have h3 : s * (m + j) % (h * s) = s * ((m + j) % h) := by rw [Nat.mul_comm h s, Nat.mul_mod_mul_left]
  rw [Nat.add_mod, h3]
  have hcs : c < s := by omega
  have hlt : s * ((m + j) % h) + s ≤ h * s := by
    have h4 := Nat.mod_lt (m + j) (show h > 0 by omega)
    have := Nat.mul_le_mul_left s (show (m + j) % h + 1 ≤ h by omega)
    rw [Nat.mul_comm h s]; rw [Nat.mul_add, Nat.mul_one] at this; exact this
  rw [Nat.mod_eq_of_lt (show c < h * s by omega), Nat.mod_eq_of_lt (by omega)]
noncomputable def secP (N t p : Int) : Int := (p % t) * N / t
theorem run_count {h s N : Nat} {b : Int} (h1 : 1 ≤ h) (h2 : h ≤ 12) (s1 : 1 ≤ s) (k : Nat) :
    ((placesL h s b).map (secP (N : Int) ((h : Int) * (s : Int)))).count (k : Int) = runN h s (b % (s : Int)).toNat N k := by
  have m0 := Int.emod_nonneg (b / (s : Int)) (show (h : Int) ≠ 0 by omega)
  have m1 := Int.emod_lt_of_pos (b / (s : Int)) (show (0 : Int) < (h : Int) by omega)
  have e : (placesL h s b).map (secP (N : Int) ((h : Int) * (s : Int))) = (((List.range h).map fun j => (((b / (s : Int)) % (h : Int)).toNat + j) % h).map fun i => (((s * i + (b % (s : Int)).toNat) * N / (h * s) : Nat) : Int)) := by
    unfold placesL secP
    rw [List.map_map, List.map_map]
    refine List.map_congr_left fun j _ => ?_
    simp only [Function.comp_apply]
    rw [place_mod h1 s1 j]
    push_cast
    rfl
  have hp := (shiftP h (by omega) ((b / (s : Int)) % (h : Int)).toNat (by omega)).map (fun i => (((s * i + (b % (s : Int)).toNat) * N / (h * s) : Nat) : Int))
  rw [e, hp.count_eq]
  unfold runN
  have : (List.range h).map (fun i => (((s * i + (b % (s : Int)).toNat) * N / (h * s) : Nat) : Int)) = ((List.range h).map (fun i => (s * i + (b % (s : Int)).toNat) * N / (h * s))).map (fun n : Nat => (n : Int)) := by
    rw [List.map_map]; rfl
  rw [this]
  generalize (List.range h).map (fun i => (s * i + (b % (s : Int)).toNat) * N / (h * s)) = l
  induction l with
  | nil => rfl
  | cons a l ih =>
    rw [List.map_cons, List.count_cons, List.count_cons, ih]
    congr 1
    by_cases hk : a = k
    · subst hk; simp
    · have : ¬ ((a : Int) = (k : Int)) := by omega
      simp [hk, this]
theorem two_runs {h s N : Nat} {b : Int} (h1 : 1 ≤ h) (h2 : h ≤ 12) (s1 : 1 ≤ s) (s2 : s ≤ 5) (n1 : 1 ≤ N) (n2 : N ≤ 8) :
    Two ((List.range N).map fun k : Nat => ((placesL h s b).map (secP (N : Int) ((h : Int) * (s : Int)))).count (k : Int)) := by
  have hc := Int.emod_lt_of_pos b (show (0 : Int) < (s : Int) by omega)
  have hk := chk h1 h2 s1 s2 (c := (b % (s : Int)).toNat) (by have := Int.emod_nonneg b (show (s : Int) ≠ 0 by omega); omega) n1 n2
  have e : ((List.range N).map fun k : Nat => ((placesL h s b).map (secP (N : Int) ((h : Int) * (s : Int)))).count (k : Int)) = (List.range N).map (runN h s (b % (s : Int)).toNat N) :=
    List.map_congr_left fun k _ => run_count h1 h2 s1 k
  rw [e]
  unfold chkRun at hk
  simp only [Bool.and_eq_true, beq_iff_eq, List.all_eq_true, Bool.or_eq_true] at hk
  refine ⟨by simpa using n1, by simpa using n2, by rw [hk.1]; exact h2, fun k hk' => ?_⟩
  rw [hk.1, List.length_map, List.length_range]
  exact hk.2 k hk'
end Mine.Internal
end
noncomputable section -- Kcols
open PySem PySem.W PySem.Calls PyProof.Rows
namespace Mine.Internal
theorem stepF {prog : Program} {w : World} {A : Around} {t : Sem Flow} {Q : Flow → Shared → Prop} {E : Value → Shared → Prop} {s : Shared} (P : Heap → Prop)
    (h1 : ∀ Q' : Flow → Shared → Prop, (∀ h tk, P h → Q' Flow.next { s with heap := h, toks := tk }) → wpAny (model prog w) A t Q' E s) (h2 : ∀ h tk, P h → Q .next { s with heap := h, toks := tk }) : wpAny (model prog w) A t Q E s := h1 Q h2
noncomputable abbrev col3 (c : UInt64 × UInt64 × UInt64) (t1 t2 t3 : Tok) (n : Nat) : Obj := W.listOf #[Value.float c.1 t1, Value.float c.2.1 t2, Value.float c.2.2 t3] n
theorem nameAll2 {P : Prop} {h₀ h : Heap} {L : Addr} {r : List (Addr × Obj)} (N : News h₀ L h r) (k : ∀ r', r = r' → News h₀ L h r' → P) : P := k r rfl N
theorem newsNil {h₀ h : Heap} {L : Addr} {r : List (Addr × Obj)} (N : News h₀ L h r) : News h₀ L h (r ++ []) := by rw [List.append_nil]; exact N
noncomputable def ColsN (f : Int → UInt64 × UInt64 × UInt64) (ps : List Int) (n : Nat) (vs : List Value) (nv : List (Addr × Obj)) : Prop :=
  vs.length = n ∧ ∀ j p, j < n → ps[j]? = some p → ∃ d t1 t2 t3 k, vs[j]? = some (.ref d) ∧ (d, col3 (f p) t1 t2 t3 k) ∈ nv
theorem ColsN.snoc {f : Int → UInt64 × UInt64 × UInt64} {ps : List Int} {n : Nat} {vs : List Value} {nv : List (Addr × Obj)} {d : Addr} {t1 t2 t3 : Tok} {k : Nat} {p : Int} (h : ColsN f ps n vs nv) (hp : ps[n]? = some p) :
    ColsN f ps (n + 1) (vs ++ [.ref d]) ((d, col3 (f p) t1 t2 t3 k) :: nv) := by
  refine ⟨by rw [List.length_append, h.1]; rfl, fun j q hj hq => ?_⟩
  by_cases e : j = n
  · subst e
    rw [hp] at hq; cases hq
    refine ⟨d, t1, t2, t3, k, ?_, .head _⟩
    rw [List.getElem?_append_right (by rw [h.1]; exact Nat.le_refl _), h.1, Nat.sub_self]; rfl
  · obtain ⟨d', a, b, c, k', h1, h2⟩ := h.2 j q (by omega) hq
    exact ⟨d', a, b, c, k', by rw [List.getElem?_append_left (by rw [h.1]; omega)]; exact h1, .tail _ h2⟩
theorem off1_mem {D : Addr} : ∀ {l : List (Addr × Obj)}, LCg.Off1 D l → ∀ p ∈ l, p.1 ≠ D
  | [], _, _, h => nomatch h
  | _ :: _, x, p, h => by
    rcases List.mem_cons.mp h with rfl | h
    · exact x.1
    · exact off1_mem x.2 p h
noncomputable def ColEnd (h₀ : Heap) (L : Addr) (m : Str → Option Value) (led : List (Addr × Obj)) (c : UInt64 × UInt64 × UInt64) (s : Shared) (y : Value) (s' : Shared) : Prop :=
  ∃ d t1 t2 t3 k h' tk', y = .ref d ∧ s' = { s with heap := h', toks := tk' } ∧ Fr h₀ L h' m ∧ News h₀ L h' ((d, col3 c t1 t2 t3 k) :: led) ∧ ∀ p ∈ led, p.1 ≠ d
theorem compCols {prog : Program} {w : World} {A : Around} {h₀ : Heap} {L : Addr} {m : Str → Option Value} {env : Env} {elt : Expr} {x : Str} {scope : Scope} {cl : List (Str × Addr)} {s : Shared} {S : List (Addr × Obj) → Prop} {its : Array Value} {Fin : List Value → List (Addr × Obj) → Prop} {n : Nat}
    (f : Int → UInt64 × UInt64 × UInt64) (ps : List Int) (R nv₀ : List (Addr × Obj)) (hn : n = ps.length) (hI : IntsAre its.toList ps) (hS : ∀ nv, S (R ++ nv))
    (turn : ∀ (i : Nat) (p : Int) (t : Tok) I oI C oC D m₂ h tk (nv : List (Addr × Obj)) (ys : List Value) (E' : Value → Shared → Prop), ps[i]? = some p → LCg.NsObj oC m₂ → m₂ x = some (.int p t) → Fr h₀ L h m → News h₀ L h ((I, oI) :: (C, oC) :: (D, LCg.lst ys) :: (R ++ nv)) → ((@Ne Nat I C) ∧ (@Ne Nat I D) ∧ (@Ne Nat C D)) →
      wpAny (model prog w) A (eval elt (compEnvC scope cl C env)) (ColEnd h₀ L m ((I, oI) :: (C, oC) :: (D, LCg.lst ys) :: (R ++ nv)) (f p) { s with heap := h, toks := tk }) E' { s with heap := h, toks := tk })
    (fin : ∀ ys nv, (∀ p ∈ nv₀, p ∈ nv) → (∀ p ∈ nv, p ∈ nv₀ ∨ ∀ q ∈ R, p.1 ≠ q.1) → ColsN f ps ps.length ys nv → Fin ys (R ++ nv)) : LCg.CompRest prog w A h₀ L m env elt x scope cl s S (fun i v => its[i]? = some v) Fin n 0 [] (R ++ nv₀) := by
  refine compInv (fun i ys nw => ∃ nv, nw = R ++ nv ∧ (∀ p ∈ nv₀, p ∈ nv) ∧ (∀ p ∈ nv, p ∈ nv₀ ∨ ∀ q ∈ R, p.1 ≠ q.1) ∧ ColsN f ps i ys nv) ⟨nv₀, rfl, fun _ h => h, fun _ h => .inl h, rfl, fun j p h => absurd h (Nat.not_lt_zero _)⟩ ?_ ?_
  · rintro i ys nw v I oI C oC D m₂ h tk E' hi ⟨nv, rfl, hsub, hoff, hc⟩ hv hC hx F N off ne
    obtain ⟨p, t, rfl, hp⟩ := IntsAre.at hI i v (by rw [Array.getElem?_toList]; exact hv)
    refine wpAny_mono (turn i p t I oI C oC D m₂ h tk nv ys E' hp hC hx F N ne) (fun y s₂ hq => ?_) fun _ _ e => e
    obtain ⟨d, t1, t2, t3, k, h', tk', rfl, rfl, F', N', hd⟩ := hq
    refine ⟨h', tk', R ++ ((d, col3 (f p) t1 t2 t3 k) :: nv), rfl, F', ?_, LCg.Off3.of ?_, hS _, _, rfl, fun q hq => .tail _ (hsub q hq), ?_, hc.snoc hp⟩
    · intro q hq
      apply N'
      simp only [List.mem_cons, List.mem_append] at hq ⊢
      rcases hq with h | h | h | h | h | h <;> simp [h]
    · intro q hq
      simp only [List.mem_cons, List.mem_append] at hq
      have o3 := LCg.Off3.mem off
      rcases hq with h | rfl | h
      · exact o3 q (List.mem_append_left _ h)
      · exact ⟨fun e => hd (I, oI) (.head _) e.symm, fun e => hd (C, oC) (.tail _ (.head _)) e.symm, fun e => hd (D, LCg.lst ys) (.tail _ (.tail _ (.head _))) e.symm⟩
      · exact o3 q (List.mem_append_right _ h)
    · intro q hq
      rcases List.mem_cons.mp hq with rfl | hq
      · exact .inr fun r hr e => hd r (.tail _ (.tail _ (.tail _ (List.mem_append_left _ hr)))) e.symm
      · exact hoff q hq
  · rintro ys nw ⟨nv, rfl, hsub, hoff, hc⟩
    rw [hn] at hc
    exact fin ys nv hsub hoff hc
end Mine.Internal
namespace Mine.Internal
theorem place_in {hN sN : Nat} {b p : Int} {i : Nat} (h : (placesL hN sN b)[i]? = some p) : ∃ j : Nat, j < hN ∧ p = b + (sN : Int) * (j : Int) := by
  obtain ⟨j, hj, rfl⟩ := List.mem_map.mp (List.mem_of_getElem? h)
  exact ⟨j, List.mem_range.mp hj, rfl⟩
theorem place_bd {hN sN : Nat} {b p : Int} {i : Nat} (h : (placesL hN sN b)[i]? = some p) (b1 : -50 ≤ b) (b2 : b ≤ 49) (s1 : 1 ≤ sN) (s2 : sN ≤ 5) (h1 : 1 ≤ hN) (h2 : hN ≤ 12) : -50 ≤ p ∧ p ≤ 49 + (hN : Int) * (sN : Int) ∧ p < 128 := by
  obtain ⟨j, hj, rfl⟩ := place_in h
  have e1 : (0 : Int) ≤ (sN : Int) * (j : Int) := by exact_mod_cast Nat.zero_le _
  have e2 : sN * j ≤ sN * (hN - 1) := Nat.mul_le_mul_left _ (by omega)
  have e3 : sN * (hN - 1) ≤ 5 * 11 := Nat.mul_le_mul s2 (by omega)
  have e4 : sN * (hN - 1) ≤ hN * sN := by rw [Nat.mul_comm hN]; exact Nat.mul_le_mul_left _ (by omega)
  have e5 : (sN : Int) * (j : Int) = ((sN * j : Nat) : Int) := by push_cast; rfl
  have e6 : (hN : Int) * (sN : Int) = ((hN * sN : Nat) : Int) := by push_cast; rfl
  rw [e5, e6]
  omega
theorem turn_bd {hN sN : Nat} (s1 : 1 ≤ sN) (s2 : sN ≤ 5) (h1 : 1 ≤ hN) (h2 : hN ≤ 12) : 1 ≤ (hN : Int) * (sN : Int) ∧ (hN : Int) * (sN : Int) ≤ 60 := by
  have e6 : (hN : Int) * (sN : Int) = ((hN * sN : Nat) : Int) := by push_cast; rfl
  have e1 : hN * sN ≤ 12 * 5 := Nat.mul_le_mul h2 s2
  have e2 : 1 * 1 ≤ hN * sN := Nat.mul_le_mul h1 s1
  rw [e6]; omega
theorem placesL_len (hN : Nat) (s b : Int) : (placesL hN s b).length = hN := by simp [placesL]
end Mine.Internal
end
end
noncomputable section -- Kcut
open PySem PySem.W PySem.Calls PyProof.Rows
namespace Mine.Internal
section
variable {prog : Program} {w : World} {A : Around} {env : Env} {E : Value → Shared → Prop}
theorem execs_app {l1 l2 : List Stmt} {Q : Flow → Shared → Prop} {s : Shared} (h : wpAny (model prog w) A (execs l1 env) (fun f s' => match f with | .next => wpAny (model prog w) A (execs l2 env) Q E s' | f => Q f s') E s) :
    wpAny (model prog w) A (execs (l1 ++ l2) env) Q E s := by
  intro Γ p hΓ
  have h0 := h Γ p hΓ
  clear h
  revert p s
  induction l1 with
  | nil => intro s p h0; exact (h0 : wpAny (model prog w) A (execs l2 env) Q E s) Γ p hΓ
  | cons st l1 ih =>
    intro s p h0
    rw [execs_cons, Sem.wp_bind'] at h0
    rw [List.cons_append, execs_cons, Sem.wp_bind']
    refine Sem.wp_mono _ Γ _ (fun f p' s' h' => ?_) (fun _ _ _ h' => h') _ _ h0
    cases f with
    | next => exact ih p' h'
    | _ => exact h'
theorem execsCut (n : Nat) (P : Heap → Prop) {body : List Stmt} {Q : Flow → Shared → Prop} {s : Shared}
    (h1 : ∀ Q' : Flow → Shared → Prop, (∀ h tk, P h → Q' .next { s with heap := h, toks := tk }) → wpAny (model prog w) A (execs (body.take n) env) Q' E s)
    (h2 : ∀ h tk, P h → wpAny (model prog w) A (execs (body.drop n) env) Q E { s with heap := h, toks := tk }) : wpAny (model prog w) A (execs body env) Q E s := by
  rw [← List.take_append_drop n body]
  exact execs_app (h1 _ fun h tk p => h2 h tk p)
end
structure Drawn (hN sN : Nat) (b sh lv lt se : Int) : Prop where
  h : 1 ≤ hN ∧ hN ≤ 12
  s : 1 ≤ sN ∧ sN ≤ 5
  b : -50 ≤ b ∧ b ≤ 49
  sh : 1 ≤ sh ∧ sh ≤ 8
  lv : 1 ≤ lv ∧ lv ≤ 8
  lt : 1 ≤ lt ∧ lt ≤ 7
  se : 1 ≤ se ∧ se ≤ 8
noncomputable abbrev cellI (o : Obj) (z : Int) (u : Tok) : Prop := o.data = Data.cell (some (Value.int z u))
structure LawP (g : Heap) (L : Addr) (h : Heap) (hN sN : Nat) (b sh lv lt se : Int) (Mr : Str → Option Value) (D : Addr) (pys : List Value) (o1 o2 o3 o4 o5 o6 o7 o8 : Obj) (u1 u2 u3 u4 u5 u6 u7 : Tok) (x1 : Int) : Prop where
  dr : Drawn hN sN b sh lv lt se
  F : Fr g L h (fun y => if y = Str.ofString "places" then some (.ref D) else Mr y)
  N : News g L h [(D, LCg.lst pys), (L + 1 + 1 + 1 + 1 + 1 + 1 + 1 + 1, o8), (L + 1 + 1 + 1 + 1 + 1 + 1 + 1, o7), (L + 1 + 1 + 1 + 1 + 1 + 1, o6), (L + 1 + 1 + 1 + 1 + 1, o5), (L + 1 + 1 + 1 + 1, o4), (L + 1 + 1 + 1, o3), (L + 1 + 1, o2), (L + 1, o1), (72, tabObj #[]), (65, tabObj #[])]
  P : IntsAre pys (placesL hN sN b)
  d1 : cellI o1 x1 u1
  d2 : cellI o2 sN u2
  d3 : cellI o3 ((hN : Int) * (sN : Int)) u3
  d4 : cellI o4 sh u4
  d5 : cellI o5 lv u5
  d6 : cellI o6 lt u6
  d7 : cellI o7 se u7
  d8 : o8.data = Data.cell none
  ne : D ≠ 65 ∧ D ≠ 72 ∧ D ≠ L + 1 + 1 + 1 + 1 + 1 + 1 + 1 + 1
noncomputable def LawPE (g : Heap) (L : Addr) (h : Heap) : Prop := ∃ (hN sN : Nat) (b sh lv lt se : Int) (Mr : Str → Option Value) (D : Addr) (pys : List Value) (o1 o2 o3 o4 o5 o6 o7 o8 : Obj) (u1 u2 u3 u4 u5 u6 u7 : Tok) (x1 : Int), LawP g L h hN sN b sh lv lt se Mr D pys o1 o2 o3 o4 o5 o6 o7 o8 u1 u2 u3 u4 u5 u6 u7 x1
theorem lawCut {prog : Program} {w : World} {A : Around} {env : Env} {E : Value → Shared → Prop} {body : List Stmt} {Q : Flow → Shared → Prop} {s : Shared} {g : Heap} {L : Addr} {m : Str → Option Value} (_ : Fr g L s.heap m)
    (h1 : ∀ Q' : Flow → Shared → Prop, (∀ h tk, LawPE g L h → Q' .next { s with heap := h, toks := tk }) → wpAny (model prog w) A (execs (body.take 10) env) Q' E s)
    (h2 : ∀ h tk, LawPE g L h → wpAny (model prog w) A (execs (body.drop 10) env) Q E { s with heap := h, toks := tk }) : wpAny (model prog w) A (execs body env) Q E s := execsCut 10 _ h1 h2
end Mine.Internal
end
section
local macro_rules | `(tactic| omega) => `(tactic| lia)
noncomputable section -- Kdl
open PySem PySem.W PyProof.Rows
namespace Mine.Internal
theorem flat_one (k : Nat) (v : Int) : (List.replicate (k : Int).toNat [v]).flatten = List.replicate k v := by
  rw [Int.toNat_natCast, List.flatten_replicate_singleton]
section
variable {q r A S i n c : Nat} {x y a b w : Int}
theorem bLt (h : a ≤ x ∧ x ≤ b) (e : b < w) : x < w := Int.lt_of_le_of_lt h.2 e
theorem bLe (h : a ≤ x ∧ x ≤ b) (e : b ≤ w) : x ≤ w := Int.le_trans h.2 e
theorem bGt (h : a ≤ x ∧ x ≤ b) (e : w < a) : w < x := Int.lt_of_lt_of_le e h.1
theorem bGe (h : a ≤ x ∧ x ≤ b) (e : w ≤ a) : w ≤ x := Int.le_trans e h.1
theorem nat0 (h : n ≤ c) : 0 ≤ (n : Int) ∧ (n : Int) ≤ (c : Int) := ⟨Int.natCast_nonneg _, Int.ofNat_le.mpr h⟩
theorem nr0 (h : r < A) (h8 : A ≤ 8) : r ≤ 7 := Nat.le_of_lt_succ (Nat.lt_of_lt_of_le h h8)
theorem xA0 (h : r < A) (h8 : A ≤ 8) : 1 ≤ (A : Int) - (r : Int) ∧ (A : Int) - (r : Int) ≤ 8 := by omega
theorem xi0 (h : i < ((5 : Int) - 1).toNat) : 1 ≤ 1 + (i : Int) ∧ 1 + (i : Int) ≤ 4 := by
  have h4 : i < 4 := h
  clear h; omega
theorem xine : 1 + (i : Int) ≠ 0 := by omega
theorem nabs (h : 1 ≤ x ∧ x ≤ 4) : x.natAbs < 1073741824 := by omega
theorem toN1 : (((1 + (i : Int)).toNat : Nat) : Int) = 1 + (i : Int) := Int.toNat_of_nonneg (by omega)
theorem sucC (h : n ≤ c) (e : c + 1 ≤ A) : n + 1 ≤ A := Nat.le_trans (Nat.succ_le_succ h) e
theorem neS : (r : Int) ≠ ((r + 1 : Nat) : Int) := by omega
theorem cl2 (h : q ≤ S) (hS : S ≤ 12) : q + (if 0 < r then 2 else 1) ≤ 14 := Nat.add_le_add (Nat.le_trans h hS) (show (if 0 < r then 2 else 1) ≤ 2 by split <;> decide)
theorem posI (h : 0 < r) : (r : Int) > 0 := Int.ofNat_lt.mpr h
theorem nposI (h : ¬ 0 < r) : ¬ (r : Int) > 0 := fun k => h (Int.ofNat_lt.mp k)
theorem nltI : ¬ (r : Int) < 0 := Int.not_lt.mpr (Int.natCast_nonneg _)
theorem ngeI (h : r < A) : ¬ (r : Int) ≥ (A : Int) := fun k => absurd (Int.ofNat_le.mp k) (Nat.not_le.mpr h)
theorem flat1 (h : r < A) (h8 : A ≤ 8) : (List.replicate (r : Int).toNat [x]).flatten.length + (List.replicate ((A : Int) - (r : Int)).toNat [y]).flatten.length ≤ 16777215 := by
  rw [show ((A : Int) - (r : Int)).toNat = A - r by rw [← Int.ofNat_sub (Nat.le_of_lt h)]; rfl, flat_one]
  simp
  omega
theorem flat2 (h : q ≤ S) (hS : S ≤ 12) : (List.replicate (q : Int).toNat [x]).flatten.length ≤ 12 := by
  rw [flat_one, List.length_replicate]; exact Nat.le_trans h hS
theorem xb0 {b : Nat} (h1 : n ≤ 200) (h2 : b ≤ 200) : -199 ≤ (b : Int) - (n : Int) + 1 ∧ (b : Int) - (n : Int) + 1 ≤ 201 := by omega
theorem tnb {b : Nat} (h : b ≥ n) : ((b : Int) - (n : Int) + 1).toNat = b - n + 1 := by omega
theorem flatL {k : Nat} : (List.replicate k [x]).flatten.length = k := by simp
theorem fl5 {b : Nat} (h1 : n ≤ 200) (h2 : b ≤ 200) : n + (List.replicate ((b : Int) - (n : Int) + 1).toNat [x]).flatten.length ≤ 16777216 := by
  rw [flatL]
  exact Nat.le_trans (Nat.add_le_add h1 (Int.toNat_le.mpr (xb0 h1 h2).2)) (by decide)
theorem fl6 {b : Nat} : (b : Int) < ((n + (List.replicate ((b : Int) - (n : Int) + 1).toNat [x]).flatten.length : Nat) : Int) := by
  rw [flatL]; omega
theorem simE (hc : n = q + (if 0 < r then 2 else 1)) : decide ((n : Int) ≤ 1) = ((q : Int) + (r : Int) == 0) := by
  rw [hc]
  clear hc
  cases q with
  | zero => cases r with
    | zero => rfl
    | succ r => rw [if_pos (Nat.succ_pos _), decide_eq_false (by decide)]; exact (beq_eq_false_iff_ne.mpr (by omega)).symm
  | succ q => rw [decide_eq_false (by split <;> omega)]; exact (beq_eq_false_iff_ne.mpr (by omega)).symm
end
theorem led1 {g h : Heap} {L : Addr} {a b c d e x1 x2 x3 x4 : Addr × Obj} {r : List (Addr × Obj)} (N : News g L h (a :: b :: c :: d :: e :: x1 :: x2 :: x3 :: x4 :: r)) : News g L h (a :: b :: c :: d :: e :: r) := fun p hp => N p (by
  cases hp with
  | head => exact .head _
  | tail _ hp => cases hp with
    | head => exact .tail _ (.head _)
    | tail _ hp => cases hp with
      | head => exact .tail _ (.tail _ (.head _))
      | tail _ hp => cases hp with
        | head => exact .tail _ (.tail _ (.tail _ (.head _)))
        | tail _ hp => cases hp with
          | head => exact .tail _ (.tail _ (.tail _ (.tail _ (.head _))))
          | tail _ hp => exact .tail _ (.tail _ (.tail _ (.tail _ (.tail _ (.tail _ (.tail _ (.tail _ (.tail _ hp)))))))))
theorem led2 {g h : Heap} {L : Addr} {a b c d x1 x2 x3 x4 : Addr × Obj} {r : List (Addr × Obj)} (N : News g L h (a :: b :: c :: d :: x1 :: x2 :: x3 :: x4 :: r)) : News g L h (a :: b :: c :: d :: r) := fun p hp => N p (by
  cases hp with
  | head => exact .head _
  | tail _ hp => cases hp with
    | head => exact .tail _ (.head _)
    | tail _ hp => cases hp with
      | head => exact .tail _ (.tail _ (.head _))
      | tail _ hp => cases hp with
        | head => exact .tail _ (.tail _ (.tail _ (.head _)))
        | tail _ hp => exact .tail _ (.tail _ (.tail _ (.tail _ (.tail _ (.tail _ (.tail _ (.tail _ hp))))))))
end Mine.Internal
end
noncomputable section -- Kstr
open PySem PySem.W PyProof.Rows
namespace Mine.Internal
noncomputable abbrev txt (l : List Nat) : Str := ⟨l.toArray⟩
section
variable {prog : Program} {w : World} {A : Around} {E : Value → Shared → Prop} {s : Shared} {t u : Tok} {Q : Value → Shared → Prop}
theorem foldl_reps (c : Array Nat) (k : Nat) : ∀ a : Array Nat, ((List.replicate k c).foldl (· ++ ·) a).toList = a.toList ++ (List.replicate k c.toList).flatten := by
  induction k with
  | zero => intro a; simp
  | succ k ih => intro a; rw [List.replicate_succ, List.foldl_cons, ih, List.replicate_succ, List.flatten_cons]; simp
theorem mul_sp (k : Nat) : Txt.mul (Str.ofString " ") (k : Int) = txt (List.replicate k 32) := by
  have e : Str.ofString " " = ⟨#[32]⟩ := by decide +kernel
  rw [e]
  unfold Txt.mul
  by_cases h : (k : Int) < 1
  · have : k = 0 := by omega
    subst this; rfl
  · rw [if_neg h]
    by_cases h1 : k = 1
    · subst h1; rfl
    · rw [if_neg (by simp [Str.length]; omega)]
      refine congrArg Str.mk ?_
      rw [← Array.toList_inj, foldl_reps]
      simp [List.flatten_replicate_singleton]
theorem mulSp {k : Nat} (hk : k ≤ 1000) (h : ∀ t' j, Q (.str (txt (List.replicate k 32)) t') { s with toks := j }) : wpAny (model prog w) A (binaryOp .Mult (.str (Str.ofString " ") t) (.int (k : Int) u)) Q E s := by
  refine KXi.mul (n := 1) (by decide +kernel) (by decide) (by omega) (by omega) fun t' j _ _ => ?_
  rw [mul_sp]; exact h t' j
theorem addS {a b : List Nat} {y : Str} (hy : y = txt b) (hl : a.length + b.length ≤ 100000) (h : ∀ t' j, Q (.str (txt (a ++ b)) t') { s with toks := j }) : wpAny (model prog w) A (binaryOp .Add (.str (txt a) t) (.str y u)) Q E s := by
  subst hy
  refine SB.add (fun t' j => ?_) (by rw [sizeLine_eq]; simp [Str.length]; omega)
  have e : txt a ++ txt b = txt (a ++ b) := by
    show Str.append _ _ = _
    simp [Str.append]
  rw [e]; exact h t' j
theorem foldl_cps : ∀ (ls : List (List Nat)) (a : Array Nat), ((ls.map txt).foldl (fun acc p => acc ++ (#[] : Array Nat) ++ p.cps) a).toList = a.toList ++ ls.flatten
  | [], a => by simp
  | l :: ls, a => by rw [List.map_cons, List.foldl_cons, foldl_cps ls]; simp
theorem join_nil (ls : List (List Nat)) : Txt.join (Str.ofString "") (ls.map txt) = txt ls.flatten := by
  have e0 : Str.ofString "" = ⟨#[]⟩ := by decide +kernel
  rw [e0]
  show Builtin.Str.glued _ _ = _
  unfold Builtin.Str.glued
  cases ls with
  | nil => rfl
  | cons l ls =>
    refine congrArg Str.mk ?_
    rw [← Array.toList_inj]
    have := foldl_cps ls l.toArray
    simpa using this
theorem joinT {D : Addr} {items : Array Value} {ls : List (List Nat)} (hl : s.heap.IsList D items) (hi : StrsAre items.toList (ls.map txt)) (hw : (ls.map (·.length)).sum + ls.length ≤ 1048576)
    (h : ∀ t' k, Q (.str (txt ls.flatten) t') { s with toks := k }) : wpAny (model prog w) A (call (.builtin "str.join") [.str (Str.ofString "") t, .ref D]) Q E s := by
  refine join_listW hl hi (by decide +kernel) ?_ fun t' k => by rw [join_nil]; exact h t' k
  rw [List.map_map, List.length_map]
  exact hw
end
end Mine.Internal
end
end
noncomputable section -- KloopS
open PySem PySem.W PySem.Calls PyProof.Rows
namespace Mine.Internal
section
variable {prog : Program} {w : World} {A : Around} {E E' : Value → Shared → Prop} {s : Shared} {env : Env} {h₀ : Heap} {x : Str} {body : List Stmt} {Q : Flow → Shared → Prop}
theorem push_keep (h : Heap) (o : Obj) : Keep h (h.push o) := fun _ _ e => Heap.get?_push_of_some _ e
theorem loopStr {T : Str} {t : Tok} {m : Str → Option Value} {news : List (Addr × Obj)} (J : Addr → Nat → (Str → Option Value) → List (Addr × Obj) → Prop) (hh : A.handled = none)
    (F : Fr h₀ env.locals s.heap m) (N : News h₀ env.locals s.heap news)
    (J0 : ∀ I, (∀ p ∈ news, p.1 < I) → J I 0 m news) (hJ : ∀ I i m₁ ns, J I i m₁ ns → ∀ p ∈ ns, p.1 ≠ I)
    (turn : ∀ I i c u m₁ news₁ h tk it, i < T.cps.size → T.cps[i]? = some c → J I i m₁ news₁ → Fr h₀ env.locals h (fun y => if y = x then some (.str ⟨#[c]⟩ u) else m₁ y) → News h₀ env.locals h ((I, it) :: news₁) →
      wpAny (model prog w) A (execs body env) (TurnEnd h₀ env.locals I it (J I (i + 1)) { s with heap := h, toks := tk } Q) E { s with heap := h, toks := tk })
    (done : ∀ I m' news' h' tk, J I T.cps.size m' news' → Fr h₀ env.locals h' m' → News h₀ env.locals h' news' → Q .next { s with heap := h', toks := tk }) :
    wpAny (model prog w) A (pyIter (.str T t)) (fun it s₂ => LoopAtV prog w A h₀ env x body Q E it s₂) E' s := by
  have key : ∀ (o : Obj) (St : Nat → Heap → Prop), Walks prog w A s.heap.objs.size [s.heap.objs.size] [s.heap.objs.size] T.cps.size (SignAt T) St → (∀ i h, St i h → ∃ o, h.get? s.heap.objs.size = some o) → St 0 (s.heap.push o) →
      LoopAtV prog w A h₀ env x body Q E (.ref s.heap.objs.size) { s with heap := s.heap.push o } := by
    intro o St W hlive hst
    have kp := push_keep s.heap o
    have hnone : s.heap.get? s.heap.objs.size = none := by
      cases q : s.heap.get? s.heap.objs.size with
      | none => rfl
      | some o' => exact absurd (Heap.lt_size q) (Nat.lt_irrefl _)
    refine loopLit [] (J s.heap.objs.size) W hlive (fun b hb => .inl (List.mem_singleton.mp hb)) ?_ ?_ hst (frKeep F kp) (newsKeep N kp) (J0 _ fun p hp => Heap.lt_size (N p hp).1) (fun i m₁ ns hj => ⟨fun p hp => (by cases hp), hJ _ _ _ _ hj⟩) ?_ ?_
    · intro hm
      have e := List.mem_singleton.mp hm
      obtain ⟨oL, _, _, hL, _⟩ := F.ns
      rw [e, hnone] at hL; cases hL
    · cases q : h₀.get? s.heap.objs.size with
      | none => rfl
      | some o' => have := F.keep _ _ q; rw [hnone] at this; cases this
    · rintro i v m₁ news₁ h tk it hi ⟨c, u, hc, rfl⟩ hj F₁ N₁
      exact turn _ i c u m₁ news₁ h tk it hi hc hj F₁ N₁
    · intro m' news' h' tk hj F' N'
      exact done _ m' news' h' tk hj F' N'
  cases ha : T.cps.all (· < 128)
  · exact wpAny_pyIter_wide ha (key _ _ (Walks.strWide hh _ T t) (fun i h ⟨o, ho, _⟩ => ⟨o, ho⟩) ⟨_, Heap.get?_push_size _ rfl, rfl, rfl⟩)
  · exact wpAny_pyIter_ascii ha (key _ _ (Walks.strAscii hh _ T t) (fun i h ⟨o, ho, _⟩ => ⟨o, ho⟩) ⟨_, Heap.get?_push_size _ rfl, rfl, rfl⟩)
end
theorem map5 (m M0 : Str → Option Value) (a b c d e : Str) (h : ∀ z, z ≠ a → z ≠ b → z ≠ c → z ≠ d → z ≠ e → m z = M0 z) : m = fun z => if z = a then m a else if z = b then m b else if z = c then m c else if z = d then m d else if z = e then m e else M0 z := by
  funext z
  by_cases h1 : z = a
  · rw [if_pos h1, h1]
  · by_cases h2 : z = b
    · rw [if_neg h1, if_pos h2, h2]
    · by_cases h3 : z = c
      · rw [if_neg h1, if_neg h2, if_pos h3, h3]
      · by_cases h4 : z = d
        · rw [if_neg h1, if_neg h2, if_neg h3, if_pos h4, h4]
        · by_cases h5 : z = e
          · rw [if_neg h1, if_neg h2, if_neg h3, if_neg h4, if_pos h5, h5]
          · rw [if_neg h1, if_neg h2, if_neg h3, if_neg h4, if_neg h5, h z h1 h2 h3 h4 h5]
end Mine.Internal
end
noncomputable section -- Klead
theorem Mine.Internal.wTopOff24 : True := by w_top off; trivial
local macro_rules | `(tactic| walk_at "no such line") => `(tactic| fail)
local macro_rules
  | `(tactic| walk_at $s:str) => match [("#step", "#st3"), ("#on", "#skip"), ("#om", "#omLKlead"), ("eval ListComp", "#o1Klead"), ("CompSrc", "#o2Klead"), ("binaryOp Mult str int", "#o3Klead"), ("binaryOp Add str str", "#o4Klead"), ("call type:tuple", "#o6Klead")].lookup s.getString with
    | some r => `(tactic| walk_at $(Lean.Syntax.mkStrLit r))
    | none => Lean.Macro.throwUnsupported
theorem Mine.Internal.kwM_Klead : True := by
  k_with "#omLKlead" => (first | walk_at "#omKlead" | lia)
  trivial
theorem Mine.Internal.kwN_Klead : True := by
  k_with "#omKlead" => (first | (with_reducible first | assumption | walk_at "#nz" | exact Nat.succ_le_of_lt ‹_› | exact Mine.Internal.u0 ‹_› | exact Mine.Internal.u1 ‹_› (by decide) | exact Mine.Internal.u2 ‹_› (by decide) | exact Mine.Internal.u3 ‹_› (by decide) | exact Mine.Internal.leC ‹_› (by decide) | exact Mine.Internal.ltC ‹_› (by decide) | exact Mine.Internal.ltD ‹_› (by decide) | exact Mine.Internal.leD ‹_› (by decide) | exact Mine.Internal.iltC ‹_› (by decide) | exact Mine.Internal.ileC ‹_› (by decide) | exact Mine.Internal.iltD ‹_› (by decide) | exact Mine.Internal.ileD ‹_› (by decide) | exact Mine.Internal.igtC ‹_› (by decide) | exact Mine.Internal.igeC ‹_› (by decide) | exact Mine.Internal.igtP ‹_› (by decide) | exact Mine.Internal.igeP ‹_› (by decide) | exact Mine.Internal.cltC ‹_› (by decide) | exact Mine.Internal.cleC ‹_› (by decide) | exact Mine.Internal.cgtC (by decide) | exact Mine.Internal.cgeC (by decide) | exact Mine.Internal.leE ‹_› ‹_› (by decide) | exact Mine.Internal.ltE ‹_› ‹_› (by decide) | exact Mine.Internal.cltE ‹_› ‹_› (by decide) | exact Mine.Internal.cltF ‹_› ‹_› (by decide) | exact Mine.Internal.cleF ‹_› ‹_› (by decide) | exact Mine.Internal.leF ‹_› ‹_› (by decide) | fail "om: none"))
  trivial
theorem Mine.Internal.kwX_Klead : True := by
  k_with "#omKlead" => (with_reducible first | exact Mine.Internal.bLt xb (by decide) | exact Mine.Internal.bLe xb (by decide) | exact Mine.Internal.bGt xb (by decide) | exact Mine.Internal.bGe xb (by decide) | exact Mine.Internal.fl5 hk1 hk2 | exact Mine.Internal.fl6 | exact Mine.Internal.sucC hk20 (by decide))
  trivial
open PySem PySem.W PyProof.Rows
namespace Mine.Internal
set_option Elab.async false
theorem Mine.Internal.kw1_Klead : True := by
  k_with "#o1Klead" => (k_here; k_dflt (refine LCg.ListComp_U (F₀ := by k_asm) (by rfl) (by decide) (by rfl) (by decide) (by rfl) ?_))
  k_with "#o2Klead" => (k_here; k_dflt (refine LCg.CompSrc.base (by rfl) (by k_asm) (by k_asm) (by assumption) (by assumption) ?_; intro _))
  k_with "#o3Klead" => (k_here; (refine mulSp (by omega) ?_); intro _ _)
  k_with "#o4Klead" => (k_here; (first | refine addS (b := [9]) (by decide +kernel) (by (try simp only [List.length_replicate, List.length_append, List.length_cons, List.length_nil]); omega) ?_ | refine addS (b := [10, 9, 32]) (by decide +kernel) (by (try simp only [List.length_replicate, List.length_append, List.length_cons, List.length_nil]); omega) ?_ | refine addS rfl (by (try simp only [List.length_replicate, List.length_append, List.length_cons, List.length_nil]); omega) ?_); intro _ _)
  k_with "#o5Klead" => (k_here; k_dflt (refine' call_cls ?k1 ?k2 ?k3 ?k4 ?k5 ?k6 ?_; (case k1 => k_asm); (case k2 => k_asm); (case k3 => k_asm); (case k4 => k_is); (case k5 => k_is); (case k6 => k_is); k_whole; intro _ _ _ _ _ l1; (try k_lt l1); revert l1; intro _ l2; (try k_lt2 l2); revert l2; intro _; (try k_sweep); (refine' code_def ?k1 ?k2 ?k3 ?k4 ?k5 ?kA ?kF ?kK ?k6 ?k7 ?k8 ?k9 ?kB ?_ ?c2 ?c3 ?c4 ?c5; (case kA => exact rfl); (case kF => exact rfl); (case kK => exact rfl); (case k1 => k_asm); (case k2 => k_asm); (case k3 => k_asm); (case k4 => k_asm); (case k5 => k_asm); (case k6 => k_is); (case k7 => k_is); (case k8 => ktr_room); (case k9 => exact BindsTo.of_eq rfl); (case c5 => decide); (case kB => exact locs rfl); (case c2 => exact rfl); (case c3 => exact rfl); (case c4 => exact rfl); k_whole)))
  k_with "#o6Klead" => (k_here; (with_reducible show wpAny _ _ (call (Value.type _) [Value.ref _]) _ _ _); k_dflt (refine' kde_tupleOf ?k1 ?k2 ?k3 ?k4 ?k5 ?_; (case k1 => k_asm); (case k2 => k_asm); (case k3 => exact News.isList (by k_asm) (by k_mem)); (case k4 => simp only [List.size_toArray]; omega); (case k5 => exact rfl); k_whole); intro _ _ _ _ l1; (try k_lt l1); revert l1; intro _; (try k_sweep))
  trivial
local macro_rules | `(tactic| walk_at "call ref") => `(tactic| (walk_at "#o5Klead"; intro g' L' h' FG' F' N' B' X' T'; (try dsimp only); (try k_lift B'); (try k_fold)))
theorem castI {vs : List Value} {a b : List Int} (h : IntsAre vs a) (e : a = b) : IntsAre vs b := e ▸ h
noncomputable abbrev tupR (D : Addr) (x : Int) (t : Tok) : Obj := { cls := Value.type "tuple", data := Data.seq #[Value.ref D, Value.int x t] }
noncomputable abbrev tupL (xs : List Value) : Obj := { cls := Value.type "tuple", data := Data.seq xs.toArray }
noncomputable abbrev wsDict (w : World) (T : Str) (n nt : Int) (D : Addr) (b : Bool) (k1 k2 k3 k4 k5 t0 tn tt : Tok) : Obj :=
  dictOf [{ hash := PyData.keyHash w.params (Str.ofString "raw"), key := Value.str (Str.ofString "raw") k1, val := Value.str T t0 },
    { hash := PyData.keyHash w.params (Str.ofString "n"), key := Value.str (Str.ofString "n") k2, val := Value.int n tn },
    { hash := PyData.keyHash w.params (Str.ofString "nt"), key := Value.str (Str.ofString "nt") k3, val := Value.int nt tt },
    { hash := PyData.keyHash w.params (Str.ofString "norm"), key := Value.str (Str.ofString "norm") k4, val := Value.ref D },
    { hash := PyData.keyHash w.params (Str.ofString "is_simple"), key := Value.str (Str.ofString "is_simple") k5, val := Value.bool b }] 5
noncomputable abbrev ltA (a b : Nat) : Prop := @LT.lt Nat instLTNat a b
noncomputable def WsJ (M0 : Str → Option Value) (Rt : List (Addr × Obj)) (D2 x1 d1 D1 I : Addr) (st : WS) (m : Str → Option Value) (ns : List (Addr × Obj)) : Prop :=
  ∃ (C : Addr) (xs : List Value) (e : Nat) (tb tn tt : Tok), (∀ z, z ≠ Str.ofString "ch" → z ≠ Str.ofString "count" → z ≠ Str.ofString "b" → z ≠ Str.ofString "n" → z ≠ Str.ofString "nt" → m z = M0 z) ∧
    m (Str.ofString "count") = some (.ref C) ∧ m (Str.ofString "b") = some (.int (st.b : Int) tb) ∧ m (Str.ofString "n") = some (.int (st.n : Int) tn) ∧ m (Str.ofString "nt") = some (.int (st.nt : Int) tt) ∧
    ns = (C, W.listOf xs.toArray e) :: Rt ∧ IntsAre xs st.cnt ∧ (ltA D2 C ∧ ltA x1 C ∧ ltA d1 C ∧ ltA D1 C) ∧ (ltA D2 I ∧ ltA x1 I ∧ ltA d1 I ∧ ltA D1 I) ∧ @Ne Nat C I
theorem WsJ.mk' {M0 : Str → Option Value} {Rt : List (Addr × Obj)} {D2 x1 d1 D1 I : Addr} {st : WS} {m : Str → Option Value} {C : Addr} {xs : List Value} {e : Nat} {tb tn tt : Tok} {b n nt : Int}
    (hm : ∀ z, z ≠ Str.ofString "ch" → z ≠ Str.ofString "count" → z ≠ Str.ofString "b" → z ≠ Str.ofString "n" → z ≠ Str.ofString "nt" → m z = M0 z) (hc : m (Str.ofString "count") = some (.ref C)) (hb : m (Str.ofString "b") = some (.int b tb)) (hn : m (Str.ofString "n") = some (.int n tn)) (ht : m (Str.ofString "nt") = some (.int nt tt))
    (eb : b = (st.b : Int)) (en : n = (st.n : Int)) (et : nt = (st.nt : Int)) (hX : IntsAre xs st.cnt) (lC : ltA D2 C ∧ ltA x1 C ∧ ltA d1 C ∧ ltA D1 C) (lI : ltA D2 I ∧ ltA x1 I ∧ ltA d1 I ∧ ltA D1 I) (nI : @Ne Nat C I) : WsJ M0 Rt D2 x1 d1 D1 I st m ((C, W.listOf xs.toArray e) :: Rt) := by
  subst eb en et
  exact ⟨C, xs, e, tb, tn, tt, hm, hc, hb, hn, ht, rfl, hX, lC, lI, nI⟩
theorem turnNext {h₀ h' : Heap} {L I : Addr} {it : Obj} {Jn : (Str → Option Value) → List (Addr × Obj) → Prop} {s : Shared} {tk : Nat} {Q : Flow → Shared → Prop} {m : Str → Option Value} {nsA ns : List (Addr × Obj)} (F : Fr h₀ L h' m) (N : News h₀ L h' nsA) (hj : Jn m ns) (sub : News h₀ L h' nsA → News h₀ L h' ((I, it) :: ns)) :
    TurnEnd h₀ L I it Jn s Q .next { s with heap := h', toks := tk } := ⟨h', tk, m, ns, rfl, F, sub N, hj⟩
theorem nameTl {P : Prop} {h₀ h : Heap} {L : Addr} {p : Addr × Obj} {r : List (Addr × Obj)} (_ : News h₀ L h (p :: r)) (k : ∀ r', r = r' → P) : P := k r rfl
noncomputable def lead_spec_k : Σ' (P1 : World → Addr → (Array Value) → (List Nat) → Nat → Tok → (ExcName → Option Value) → (Str → Option Value) → (Str → Option Value) → Nat → Nat → (Option (List Code)) → Str → Scope → Addr → Value → (List (Str × Addr)) → (List Env) → Around → Heap → Heap → Addr → (Str → Option Value) → Shared → (Value → Shared → Prop) → (Value → Shared → Prop) → Addr → Heap → Prop), (∀ w D vs ks tail t1 mean mg mb dp un gd cn cs a ccd cl outer A₀ base h₀ L m s Q E L' h', P1 w D vs ks tail t1 mean mg mb dp un gd cn cs a ccd cl outer A₀ base h₀ L m s Q E L' h') → ∀ (w : World) (D : Addr) (vs : Array Value) (ks : List Nat) (tail : Nat) (t1 : Tok), CtrK w 12 120 181 [.ref D, .int (tail : Int) t1] (fun h => h.IsList D vs ∧ IntsAre vs.toList (ks.map (Int.ofNat)) ∧ ks.length ≤ 20 ∧ ks.sum ≤ 60 ∧ tail ≤ 20)
      (fun s Q => ∀ (x dx nn nc : Addr) (xs : List Value) (T : Str) (k1 k2 k3 k4 k5 t0 tn tt tb : Tok) (hz : Heap) (tz : Nat), Keep s.heap hz → s.heap.get? x = none → s.heap.get? dx = none → s.heap.get? nn = none → s.heap.get? nc = none →
        hz.get? x = some (instObj 153 dx) → hz.get? dx = some (wsDict w T ((ks.sum + ks.length + tail : Nat) : Int) ((ks.length : Nat) : Int) nn (decide (((cntOf ks).length : Int) ≤ 1)) k1 k2 k3 k4 k5 t0 tn tt) → hz.get? nn = some (tupR nc (tail : Int) tb) → hz.get? nc = some (tupL xs) → IntsAre xs (cntOf ks) →
        (ltA dx x ∧ ltA x nc ∧ ltA nc nn) → Q (.ref x) { s with heap := hz, toks := tz }) := ⟨_, by
  intro hP_1 w D vs ks tail t1
  dsimp only [CtrK, P0, LS]
  k_fill
  intro mean mg mb dp un gd cn cs a ccd cl outer A₀ base h₀ L m s Q E B F X T hk hpre hdp hun hret
  obtain ⟨hL, hI, hlen, hks, htl⟩ := hpre
  have hvl : vs.size = ks.length := by have := hI.length; simpa using this
  have hsz : vs.size ≤ sizeLine := by rw [sizeLine_eq]; omega
  refine wpAny_call ?_
  k_dflt (refine' enterP ?k1 ?k2 ?k3 ?k5 ?kA ?kF ?kK ?k6 ?k7 ?k8 ?k9 ?kB ?_ ?c2 ?c3 ?c4 ?c5; walk_at "#c1"; k_whole; intro L' h' F' N' B' X' T'; (try dsimp only); (try k_lift B'); (try k_fold))
  revert B F X T hk hdp hun hret hL hI hlen hks htl hvl hsz F' N' B' X' T' qk ek
  exact hP_1 w D vs ks tail t1 mean mg mb dp un gd cn cs a ccd cl outer A₀ base h₀ L m s Q E L' h'⟩
noncomputable def lead_spec_R (z : Sk × (List Nat)) : Prop := lead_spec_k.1 (z.1.w 0) (z.1.a 0) (z.1.av 0) z.2 (z.1.n 0) (z.1.t 0) (z.1.em 0) (z.1.m 0) (z.1.m 1) (z.1.n 1) (z.1.n 2) (z.1.oc 0) (z.1.x 0) (z.1.sc 0) (z.1.a 1) (z.1.v 0) (z.1.sa 0) (z.1.le 0) (z.1.ar 0) (z.1.h 0) (z.1.h 1) (z.1.a 2) (z.1.m 2) (z.1.s 0) (z.1.q 0) (z.1.q 1) (z.1.a 3) (z.1.h 2)
noncomputable def lead_spec_z : Sk × (List Nat) := skd (dS, default) lead_spec_R
namespace lead_spec_c
def D := lead_spec_z.1.a 0
def ks := lead_spec_z.2
def tail := lead_spec_z.1.n 0
def s := lead_spec_z.1.s 0
def h' := lead_spec_z.1.h 2
noncomputable def r1_k : Σ' (P1 : Nat → Heap → Nat → (List Value) → Addr → Obj → Addr → Obj → Addr → (Str → Option Value) → Heap → Nat → (Value → Shared → Prop) → Tok → Nat → Prop), Σ' (P2 : Nat → Heap → (List Value) → Addr → Heap → Nat → Tok → Nat → (List Nat) → Tok → Nat → Tok → Nat → Tok → Nat → Addr → Addr → Heap → Heap → Addr → Heap → Nat → Heap → Nat → Addr → Heap → Heap → Heap → Heap → Nat → Addr → Heap → Heap → Nat → Heap → Heap → Heap → Nat → Prop), (∀ tkzz1y2 gzz1y3 i ys I oI C oC D m₂ h tk E' tv k, P1 tkzz1y2 gzz1y3 i ys I oI C oC D m₂ h tk E' tv k) → (∀ tkzz1y3 gA ys D1 hA tkB t3 kB Wt t2 j2 ta j1 t0 j0 x1 d1 hB gB L1 hC tkC hD xtr1 D2 hE hF hG hH tkD D3 hI9 hJ9 xtr2 hK9 hL9 hM9 tk, P2 tkzz1y3 gA ys D1 hA tkB t3 kB Wt t2 j2 ta j1 t0 j0 x1 d1 hB gB L1 hC tkC hD xtr1 D2 hE hF hG hH tkD D3 hI9 hJ9 xtr2 hK9 hL9 hM9 tk) → lead_spec_k.1 (lead_spec_z.1.w 0) D (lead_spec_z.1.av 0) ks tail (lead_spec_z.1.t 0) (lead_spec_z.1.em 0) (lead_spec_z.1.m 0) (lead_spec_z.1.m 1) (lead_spec_z.1.n 1) (lead_spec_z.1.n 2) (lead_spec_z.1.oc 0) (lead_spec_z.1.x 0) (lead_spec_z.1.sc 0) (lead_spec_z.1.a 1) (lead_spec_z.1.v 0) (lead_spec_z.1.sa 0) (lead_spec_z.1.le 0) (lead_spec_z.1.ar 0) (lead_spec_z.1.h 0) (lead_spec_z.1.h 1) (lead_spec_z.1.a 2) (lead_spec_z.1.m 2) s (lead_spec_z.1.q 0) (lead_spec_z.1.q 1) (lead_spec_z.1.a 3) h' := ⟨_, _, by
  intro hP_1 hP_2 
  intro B F X T hk hdp hun hret hL hI hlen hks htl hvl hsz F' N' B' X' T' qk ek
  k_steps
  (with_reducible rename News _ _ _ _ => kN)
  refine compInv (fun i ys nw => nw = _ ∧ StrsAre ys (((ks.take i).map fun k => List.replicate k 32 ++ [9]).map txt)) ⟨rfl, .nil⟩ ?_ ?_
  · intro i ys nw v I oI C oC D m₂ h tk E' hi hInv hP hC hx F N off ne
    obtain ⟨rfl, hS⟩ := hInv
    have off0 := off
    obtain ⟨x, tv, rfl, hx1⟩ := IntsAre.at hI i v (by simpa using hP)
    obtain ⟨k, hk1, rfl⟩ : ∃ k, ks[i]? = some k ∧ (k : Int) = x := by simpa using hx1
    have hk20 : k ≤ 60 := Nat.le_trans (mem_le_sum (List.mem_of_getElem? hk1)) hks
    rename_i Fzz1y1 tkzz1y2 gzz1y3
    revert B Fzz1y1 X T hk hdp hun hret hL hI hlen hks htl hvl hsz F' kN B' X' T' qk ek hi hC F ne hS N off off0 hk1 hx1 hP hx hk20
    exact hP_1 tkzz1y2 gzz1y3 i ys I oI C oC D m₂ h tk E' tv k
  · rintro ys nw ⟨rfl, hS⟩
    rw [hvl, List.take_length] at hS
    obtain ⟨hfl, hfs⟩ := leadTxt_len ks
    k_steps
    k_here
    refine joinT (by is_list) hS (by rw [hfs, List.length_map]; exact Nat.le_trans (Nat.add_le_add (Nat.add_le_add hks hlen) hlen) (by decide)) ?_
    intro _ _
    have hWm : ∀ c ∈ leadTxt ks, c = 32 ∨ c = 9 := fun c => leadTxt_mem
    have hWs := lead_all ks tail
    have hW : List.flatten (ks.map fun k => List.replicate k 32 ++ [9]) = leadTxt ks := (List.flatMap_def ..).symm
    rw [hW]
    generalize leadTxt ks = Wt at *
    have hk9 : Wt.length + tail ≤ 200 := Nat.le_trans (Nat.add_le_add (Nat.le_trans (Nat.le_of_eq hfl) (Nat.add_le_add hks hlen)) htl) (by decide)
    k_steps
    (with_reducible rename Fr _ _ _ _ => kF)
    (with_reducible rename News _ _ _ _ => kN)
    rename_i gA D1 hA tkB oT t3 kB t2 j2 ta j1 t0 j0 x1 d1 hB FB NB l1 l2 gB L1 hC FC BC XC TC tkC hD xtr1 D2 hE l3 hF hG hH tkD D3 hI9 l4 hJ9 xtr2 hK9 hL9 hM9
    rename_i qkzz1y1 ekzz1y2 tkzz1y3
    revert B F X T hk hdp hun hret hL hI hlen hks htl hvl hsz B' X' T' qkzz1y1 ekzz1y2 hS hfs oT hfl hWm hWs hW hk9 FB NB l1 l2 FC BC XC TC qk ek l3 l4 kF kN
    exact hP_2 tkzz1y3 gA ys D1 hA tkB t3 kB Wt t2 j2 ta j1 t0 j0 x1 d1 hB gB L1 hC tkC hD xtr1 D2 hE hF hG hH tkD D3 hI9 hJ9 xtr2 hK9 hL9 hM9 tk⟩
noncomputable def r1_R1 (z : Sk) : Prop := r1_k.1 (z.n 0) (z.h 0) (z.n 1) (z.lv 0) (z.a 0) (z.o 0) (z.a 1) (z.o 1) (z.a 2) (z.m 0) (z.h 1) (z.n 2) (z.q 0) (z.t 0) (z.n 3)
namespace r1_c1
theorem r2 : r1_k.1 ((skv r1_R1).n 0) ((skv r1_R1).h 0) ((skv r1_R1).n 1) ((skv r1_R1).lv 0) ((skv r1_R1).a 0) ((skv r1_R1).o 0) ((skv r1_R1).a 1) ((skv r1_R1).o 1) ((skv r1_R1).a 2) ((skv r1_R1).m 0) ((skv r1_R1).h 1) ((skv r1_R1).n 2) ((skv r1_R1).q 0) ((skv r1_R1).t 0) ((skv r1_R1).n 3) := by
  intro B Fzz1y1 X T hk hdp hun hret hL hI hlen hks htl hvl hsz F' kN B' X' T' qk ek hi hC F ne hS N off off0 hk1 hx1 hP hx hk20
  k_steps
  (with_reducible rename Fr _ _ _ _ => zF)
  (with_reducible rename News _ _ _ _ => zN)
  rw [List.take_add_one, hk1]
  simpa using StrsAre.append' hS (.cons _ _ .nil)
end r1_c1
noncomputable def r1_R2 (z : Sk × (List Nat)) : Prop := r1_k.2.1 (z.1.n 0) (z.1.h 0) (z.1.lv 0) (z.1.a 0) (z.1.h 1) (z.1.n 1) (z.1.t 0) (z.1.n 2) z.2 (z.1.t 1) (z.1.n 3) (z.1.t 2) (z.1.n 4) (z.1.t 3) (z.1.n 5) (z.1.a 1) (z.1.a 2) (z.1.h 2) (z.1.h 3) (z.1.a 3) (z.1.h 4) (z.1.n 6) (z.1.h 5) (z.1.n 7) (z.1.a 4) (z.1.h 6) (z.1.h 7) (z.1.h 8) (z.1.h 9) (z.1.n 8) (z.1.a 5) (z.1.h 10) (z.1.h 11) (z.1.n 9) (z.1.h 12) (z.1.h 13) (z.1.h 14) (z.1.n 10)
noncomputable def r1_z2 : Sk × (List Nat) := skd (dS, default) r1_R2
namespace r1_c2
def D1 := r1_z2.1.a 0
def Wt := r1_z2.2
def x1 := r1_z2.1.a 1
def d1 := r1_z2.1.a 2
def D2 := r1_z2.1.a 4
def tk := r1_z2.1.n 10
noncomputable def r3_k : Σ' (P1 : Addr → Nat → Tok → Heap → Nat → Obj → Addr → (List Value) → Nat → Tok → Tok → Tok → (Option Value) → WS → Prop), Σ' (P2 : Addr → Nat → Tok → Heap → Nat → Obj → Addr → (List Value) → Nat → Tok → Tok → Tok → (Option Value) → WS → Prop), Σ' (P3 : Addr → Nat → Tok → Heap → Nat → Obj → Addr → (List Value) → Nat → Tok → Tok → Tok → (Option Value) → ((Str → Option Value) → List (Addr × Obj) → Prop) → Prop), (∀ I i u hh tkk it C xs e tb tn tt vc ws, P1 I i u hh tkk it C xs e tb tn tt vc ws) → (∀ I i u hh tkk it C xs e tb tn tt vc ws, P2 I i u hh tkk it C xs e tb tn tt vc ws) → (∀ I i u hh tkk it C xs e tb tn tt vc Jn, P3 I i u hh tkk it C xs e tb tn tt vc Jn) → r1_k.2.1 (r1_z2.1.n 0) (r1_z2.1.h 0) (r1_z2.1.lv 0) D1 (r1_z2.1.h 1) (r1_z2.1.n 1) (r1_z2.1.t 0) (r1_z2.1.n 2) Wt (r1_z2.1.t 1) (r1_z2.1.n 3) (r1_z2.1.t 2) (r1_z2.1.n 4) (r1_z2.1.t 3) (r1_z2.1.n 5) x1 d1 (r1_z2.1.h 2) (r1_z2.1.h 3) (r1_z2.1.a 3) (r1_z2.1.h 4) (r1_z2.1.n 6) (r1_z2.1.h 5) (r1_z2.1.n 7) D2 (r1_z2.1.h 6) (r1_z2.1.h 7) (r1_z2.1.h 8) (r1_z2.1.h 9) (r1_z2.1.n 8) (r1_z2.1.a 5) (r1_z2.1.h 10) (r1_z2.1.h 11) (r1_z2.1.n 9) (r1_z2.1.h 12) (r1_z2.1.h 13) (r1_z2.1.h 14) tk := ⟨_, _, _, by
  intro hP_1 hP_2 hP_3 
  intro B F X T hk hdp hun hret hL hI hlen hks htl hvl hsz B' X' T' qkzz1y1 ekzz1y2 hS hfs oT hfl hWm hWs hW hk9 FB NB l1 l2 FC BC XC TC qk ek l3 l4 kF kN
  refine nameFr kF (fun M0 hM0 kF => ?_)
  refine nameTl kN (fun Rt hRt => ?_)
  refine loopStr (fun I i m₁ ns => WsJ M0 Rt D2 x1 d1 D1 I (wsAt (Wt ++ List.replicate tail 32) i) m₁ ns ∧ i ≤ Wt.length + tail) rfl kF kN ?g1 ?g2 ?g3 ?g4
  case g1 =>
    intro I hI0
    k_lt hI0
    subst hRt
    rw [wsAt_zero]
    refine ⟨WsJ.mk' (xs := []) (fun _ _ _ _ _ _ => rfl) (by rw [← hM0]; rfl) (by rw [← hM0]; rfl) (by rw [← hM0]; rfl) (by rw [← hM0]; rfl) rfl rfl rfl .nil l4 hI0.2 (Nat.ne_of_lt hI0.1), Nat.zero_le _⟩
  case g2 =>
    rintro I i m₁ ns ⟨⟨C, xs, e, tb, tn, tt, -, -, -, -, -, rfl, -, lC, lI, nI⟩, -⟩ p hp
    subst hRt
    simp only [List.mem_cons, List.not_mem_nil, or_false] at hp
    rcases hp with rfl | rfl | rfl | rfl | rfl
    · exact nI
    · exact Nat.ne_of_lt lI.1
    · exact Nat.ne_of_lt lI.2.1
    · exact Nat.ne_of_lt lI.2.2.1
    · exact Nat.ne_of_lt lI.2.2.2
  case g3 =>
    intro I i c u m₁ news₁ hh tkk it hi hc hJ F N
    obtain ⟨⟨C, xs, e, tb, tn, tt, hm, hmc, hmb, hmn, hmt, rfl, hX, lC, lI, nI⟩, hiM⟩ := hJ
    have em := map5 _ _ _ _ _ _ _ hm
    rw [hmc, hmb, hmn, hmt] at em
    generalize m₁ (Str.ofString "ch") = vc at em
    subst em
    clear hm hmc hmb hmn hmt
    have hc' : (Wt ++ List.replicate tail 32 ++ [10, 9, 32])[i]? = some c := by simpa using hc
    have hlenW : (Wt ++ List.replicate tail 32).length = Wt.length + tail := by simp
    have hlw := wsAt_len (Wt ++ List.replicate tail 32) i (Nat.le_trans hiM (Nat.le_of_eq hlenW.symm))
    have hxl := hX.length
    have nI2 : @Ne Nat I C := Ne.symm nI
    rcases lead_at hWm hc' hiM with ⟨hi1, hc1 | hc1, hc2⟩ | ⟨hi1, hc1⟩
    · subst hc1
      have hst := wsAt_succ hc2
      rw [hst]
      clear hst
      generalize hws : wsAt (Wt ++ List.replicate tail 32) i = ws at *
      generalize hJn : (fun m₁ ns => WsJ M0 Rt D2 x1 d1 D1 I (ws.step 32) m₁ ns ∧ i + 1 ≤ Wt.length + tail) = Jn
      generalize hM1 : M0 = M1 at hJn
      generalize hR1 : Rt = R1 at hJn
      subst hM0 hRt
      dsimp only [ltA] at lC lI
      clear kF kN
      have hk1 : ws.cnt.length ≤ 200 := Nat.le_trans hlw.2 (Nat.le_trans hiM hk9)
      have hk2 : ws.b ≤ 200 := Nat.le_trans hlw.1 (Nat.le_trans hiM hk9)
      rename_i Fzz3y1
      revert B Fzz3y1 X T hk hdp hun hret hL hI hlen hks htl hvl hsz B' X' T' qkzz1y1 ekzz1y2 hS hfs oT hfl hWm hWs hW hk9 FB NB l1 l2 FC BC XC TC qk ek l3 l4 kF hi hiM lC lI nI hlenW nI2 hi1 hc hc' hc2 hws hX hlw hxl Jn M1 R1 hJn F hM1 N hR1 hk1 hk2
      exact hP_1 I i u hh tkk it C xs e tb tn tt vc ws
    · subst hc1
      have hst := wsAt_succ hc2
      rw [hst]
      clear hst
      generalize hws : wsAt (Wt ++ List.replicate tail 32) i = ws at *
      generalize hJn : (fun m₁ ns => WsJ M0 Rt D2 x1 d1 D1 I (ws.step 9) m₁ ns ∧ i + 1 ≤ Wt.length + tail) = Jn
      generalize hM1 : M0 = M1 at hJn
      generalize hR1 : Rt = R1 at hJn
      subst hM0 hRt
      dsimp only [ltA] at lC lI
      clear kF kN
      have hk1 : ws.cnt.length ≤ 200 := Nat.le_trans hlw.2 (Nat.le_trans hiM hk9)
      have hk2 : ws.b ≤ 200 := Nat.le_trans hlw.1 (Nat.le_trans hiM hk9)
      rename_i Fzz3y1
      revert B Fzz3y1 X T hk hdp hun hret hL hI hlen hks htl hvl hsz B' X' T' qkzz1y1 ekzz1y2 hS hfs oT hfl hWm hWs hW hk9 FB NB l1 l2 FC BC XC TC qk ek l3 l4 kF hi hiM lC lI nI hlenW nI2 hi1 hc hc' hc2 hws hX hlw hxl Jn M1 R1 hJn F hM1 N hR1 hk1 hk2
      exact hP_2 I i u hh tkk it C xs e tb tn tt vc ws
    · subst hc1
      have hall : wsAt (Wt ++ List.replicate tail 32) i = ⟨cntOf ks, tail, ks.sum + ks.length + tail, ks.length⟩ := by
        unfold wsAt
        rw [List.take_of_length_le (Nat.le_of_eq (hlenW.trans hi1.symm)), hWs]
      rw [hall] at F hX hlw hxl
      dsimp only at hX hlw hxl
      generalize hJn : (fun m₁ ns => WsJ M0 Rt D2 x1 d1 D1 I (wsAt (Wt ++ List.replicate tail 32) (i + 1)) m₁ ns ∧ i + 1 ≤ Wt.length + tail) = Jn
      clear hJn
      subst hM0 hRt
      dsimp only [ltA] at lC lI
      clear kF kN
      have hk1 : (cntOf ks).length ≤ 200 := Nat.le_trans hlw.2 (Nat.le_trans hiM hk9)
      rename_i Fzz3y1
      revert B Fzz3y1 X T hk hdp hun hret hL hI hlen hks htl hvl hsz B' X' T' qkzz1y1 ekzz1y2 hS hfs oT hfl hWm hWs hW hk9 FB NB l1 l2 FC BC XC TC qk ek l3 l4 kF hi hiM hX lC lI nI hlenW hlw hxl nI2 hi1 hc hc' hall F N hk1
      exact hP_3 I i u hh tkk it C xs e tb tn tt vc Jn
  case g4 =>
    rintro I m' news' h' tk ⟨-, hbad⟩
    simp at hbad
    omega⟩
noncomputable def r3_R1 (z : Sk × WS) : Prop := r3_k.1 (z.1.a 0) (z.1.n 0) (z.1.t 0) (z.1.h 0) (z.1.n 1) (z.1.o 0) (z.1.a 1) (z.1.lv 0) (z.1.n 2) (z.1.t 1) (z.1.t 2) (z.1.t 3) (z.1.ov 0) z.2
noncomputable def r3_z1 : Sk × WS := skd (dS, ⟨[], 0, 0, 0⟩) r3_R1
namespace r3_c1
theorem r4 : r3_k.1 (r3_z1.1.a 0) (r3_z1.1.n 0) (r3_z1.1.t 0) (r3_z1.1.h 0) (r3_z1.1.n 1) (r3_z1.1.o 0) (r3_z1.1.a 1) (r3_z1.1.lv 0) (r3_z1.1.n 2) (r3_z1.1.t 1) (r3_z1.1.t 2) (r3_z1.1.t 3) (r3_z1.1.ov 0) r3_z1.2 := by
  intro B Fzz3y1 X T hk hdp hun hret hL hI hlen hks htl hvl hsz B' X' T' qkzz1y1 ekzz1y2 hS hfs oT hfl hWm hWs hW hk9 FB NB l1 l2 FC BC XC TC qk ek l3 l4 kF hi hiM lC lI nI hlenW nI2 hi1 hc hc' hc2 hws hX hlw hxl Jn M1 R1 hJn F hM1 N hR1 hk1 hk2
  k_steps
  (with_reducible rename Fr _ _ _ _ => zF)
  (with_reducible rename News _ _ _ _ => zN)
  subst hJn hM1 hR1
  refine turnNext zF zN ⟨WsJ.mk' (fun z n1 n2 n3 n4 n5 => ?_) rfl rfl rfl rfl rfl rfl rfl hX lC lI nI, by omega⟩ id
  simp only [if_neg n1, if_neg n2, if_neg n3, if_neg n4, if_neg n5]
end r3_c1
noncomputable def r3_R2 (z : Sk × WS) : Prop := r3_k.2.1 (z.1.a 0) (z.1.n 0) (z.1.t 0) (z.1.h 0) (z.1.n 1) (z.1.o 0) (z.1.a 1) (z.1.lv 0) (z.1.n 2) (z.1.t 1) (z.1.t 2) (z.1.t 3) (z.1.ov 0) z.2
noncomputable def r3_z2 : Sk × WS := skd (dS, ⟨[], 0, 0, 0⟩) r3_R2
namespace r3_c2
def e := r3_z2.1.n 2
def ws := r3_z2.2
theorem r5 : r3_k.2.1 (r3_z2.1.a 0) (r3_z2.1.n 0) (r3_z2.1.t 0) (r3_z2.1.h 0) (r3_z2.1.n 1) (r3_z2.1.o 0) (r3_z2.1.a 1) (r3_z2.1.lv 0) e (r3_z2.1.t 1) (r3_z2.1.t 2) (r3_z2.1.t 3) (r3_z2.1.ov 0) ws := by
  intro B Fzz3y1 X T hk hdp hun hret hL hI hlen hks htl hvl hsz B' X' T' qkzz1y1 ekzz1y2 hS hfs oT hfl hWm hWs hW hk9 FB NB l1 l2 FC BC XC TC qk ek l3 l4 kF hi hiM lC lI nI hlenW nI2 hi1 hc hc' hc2 hws hX hlw hxl Jn M1 R1 hJn F hM1 N hR1 hk1 hk2
  have xb := xb0 hk1 hk2
  k_steps
  · (with_reducible rename Fr _ _ _ _ => zF)
    (with_reducible rename News _ _ _ _ => zN)
    subst hJn hM1 hR1
    rename_i lz _ _ _ _ hiz _ _ _ _
    refine turnNext zF zN ⟨WsJ.mk' (e := 0) (fun z n1 n2 n3 n4 n5 => ?_) rfl rfl rfl rfl rfl rfl rfl (castI hiz ?_) lz.2.2.2.2 lI (Nat.ne_of_gt lz.2.2.1), by omega⟩ fun hN => cb_drop hN ?_
    · simp only [if_neg n1, if_neg n2, if_neg n3, if_neg n4, if_neg n5]
    · have hge : ws.b ≥ ws.cnt.length := by omega
      have e1 : (↑ws.b - ↑ws.cnt.length + 1 : Int).toNat = ws.b - ws.cnt.length + 1 := tnb hge
      rw [e1, Int.toNat_natCast, List.flatten_replicate_singleton]
      simp only [WS.step, bump, if_pos hge, show (9 : Nat) ≠ 32 by decide, if_false]
    · kcj_all
  · (with_reducible rename Fr _ _ _ _ => zF)
    (with_reducible rename News _ _ _ _ => zN)
    subst hJn hM1 hR1
    rename_i hiz _ _ _ _
    refine turnNext zF zN ⟨WsJ.mk' (e := e) (fun z n1 n2 n3 n4 n5 => ?_) rfl rfl rfl rfl rfl rfl rfl (castI hiz ?_) lC lI nI, by omega⟩ fun hN => cb_drop hN ?_
    · simp only [if_neg n1, if_neg n2, if_neg n3, if_neg n4, if_neg n5]
    · have hge : ¬ ws.b ≥ ws.cnt.length := by omega
      rw [Int.toNat_natCast]
      simp only [WS.step, bump, if_neg hge, show (9 : Nat) ≠ 32 by decide, if_false]
    · kcj_all
end r3_c2
noncomputable def r3_R3 (z : Sk × ((Str → Option Value) → List (Addr × Obj) → Prop)) : Prop := r3_k.2.2.1 (z.1.a 0) (z.1.n 0) (z.1.t 0) (z.1.h 0) (z.1.n 1) (z.1.o 0) (z.1.a 1) (z.1.lv 0) (z.1.n 2) (z.1.t 1) (z.1.t 2) (z.1.t 3) (z.1.ov 0) z.2
noncomputable def r3_z3 : Sk × ((Str → Option Value) → List (Addr × Obj) → Prop) := skd (dS, (fun _ _ => True)) r3_R3
namespace r3_c3
theorem r6 : r3_k.2.2.1 (r3_z3.1.a 0) (r3_z3.1.n 0) (r3_z3.1.t 0) (r3_z3.1.h 0) (r3_z3.1.n 1) (r3_z3.1.o 0) (r3_z3.1.a 1) (r3_z3.1.lv 0) (r3_z3.1.n 2) (r3_z3.1.t 1) (r3_z3.1.t 2) (r3_z3.1.t 3) (r3_z3.1.ov 0) r3_z3.2 := by
  intro B Fzz3y1 X T hk hdp hun hret hL hI hlen hks htl hvl hsz B' X' T' qkzz1y1 ekzz1y2 hS hfs oT hfl hWm hWs hW hk9 FB NB l1 l2 FC BC XC TC qk ek l3 l4 kF hi hiM hX lC lI nI hlenW hlw hxl nI2 hi1 hc hc' hall F N hk1
  k_steps
  dsimp only [TurnEnd]
  k_steps
  (with_reducible rename Fr s.heap _ _ _ => zF)
  (with_reducible rename News s.heap _ _ _ => zN)
  rename_i lzA _ _ lz2 _ _ _ _ _ _ _
  have z1 := zN _ (.head _)
  have z2 := zN _ (.tail _ (.head _))
  have z3 := zN _ (.tail _ (.tail _ (.tail _ (.tail _ (.tail _ (.head _))))))
  have z4 := zN _ (.tail _ (.tail _ (.tail _ (.tail _ (.tail _ (.tail _ (.head _)))))))
  exact hret _ _ _ _ _ _ _ _ _ _ _ _ _ _ _ _ _ zF.keep z3.2.2 z4.2.2 z1.2.2 z2.2.2 z3.1 z4.1 z1.1 z2.1 hX ⟨l2, lzA.2.2.2.1, lz2.1⟩
end r3_c3
theorem r3  : r1_k.2.1 (r1_z2.1.n 0) (r1_z2.1.h 0) (r1_z2.1.lv 0) D1 (r1_z2.1.h 1) (r1_z2.1.n 1) (r1_z2.1.t 0) (r1_z2.1.n 2) Wt (r1_z2.1.t 1) (r1_z2.1.n 3) (r1_z2.1.t 2) (r1_z2.1.n 4) (r1_z2.1.t 3) (r1_z2.1.n 5) x1 d1 (r1_z2.1.h 2) (r1_z2.1.h 3) (r1_z2.1.a 3) (r1_z2.1.h 4) (r1_z2.1.n 6) (r1_z2.1.h 5) (r1_z2.1.n 7) D2 (r1_z2.1.h 6) (r1_z2.1.h 7) (r1_z2.1.h 8) (r1_z2.1.h 9) (r1_z2.1.n 8) (r1_z2.1.a 5) (r1_z2.1.h 10) (r1_z2.1.h 11) (r1_z2.1.n 9) (r1_z2.1.h 12) (r1_z2.1.h 13) (r1_z2.1.h 14) tk :=
  r3_k.2.2.2 (fun I i u hh tkk it C xs e tb tn tt vc ws => skall _ r3_R1 r3_c1.r4 ((sk_a I <| sk_n i <| sk_t u <| sk_h hh <| sk_n tkk <| sk_o it <| sk_a C <| sk_lv xs <| sk_n e <| sk_t tb <| sk_t tn <| sk_t tt <| sk_ov vc <| dS), ws)) (fun I i u hh tkk it C xs e tb tn tt vc ws => skall _ r3_R2 r3_c2.r5 ((sk_a I <| sk_n i <| sk_t u <| sk_h hh <| sk_n tkk <| sk_o it <| sk_a C <| sk_lv xs <| sk_n e <| sk_t tb <| sk_t tn <| sk_t tt <| sk_ov vc <| dS), ws)) (fun I i u hh tkk it C xs e tb tn tt vc Jn => skall _ r3_R3 r3_c3.r6 ((sk_a I <| sk_n i <| sk_t u <| sk_h hh <| sk_n tkk <| sk_o it <| sk_a C <| sk_lv xs <| sk_n e <| sk_t tb <| sk_t tn <| sk_t tt <| sk_ov vc <| dS), Jn)) 
end r1_c2
theorem r1  : lead_spec_k.1 (lead_spec_z.1.w 0) D (lead_spec_z.1.av 0) ks tail (lead_spec_z.1.t 0) (lead_spec_z.1.em 0) (lead_spec_z.1.m 0) (lead_spec_z.1.m 1) (lead_spec_z.1.n 1) (lead_spec_z.1.n 2) (lead_spec_z.1.oc 0) (lead_spec_z.1.x 0) (lead_spec_z.1.sc 0) (lead_spec_z.1.a 1) (lead_spec_z.1.v 0) (lead_spec_z.1.sa 0) (lead_spec_z.1.le 0) (lead_spec_z.1.ar 0) (lead_spec_z.1.h 0) (lead_spec_z.1.h 1) (lead_spec_z.1.a 2) (lead_spec_z.1.m 2) s (lead_spec_z.1.q 0) (lead_spec_z.1.q 1) (lead_spec_z.1.a 3) h' :=
  r1_k.2.2 (fun tkzz1y2 gzz1y3 i ys I oI C oC D m₂ h tk E' tv k => skva r1_R1 r1_c1.r2 (sk_n tkzz1y2 <| sk_h gzz1y3 <| sk_n i <| sk_lv ys <| sk_a I <| sk_o oI <| sk_a C <| sk_o oC <| sk_a D <| sk_m m₂ <| sk_h h <| sk_n tk <| sk_q E' <| sk_t tv <| sk_n k <| dS)) (fun tkzz1y3 gA ys D1 hA tkB t3 kB Wt t2 j2 ta j1 t0 j0 x1 d1 hB gB L1 hC tkC hD xtr1 D2 hE hF hG hH tkD D3 hI9 hJ9 xtr2 hK9 hL9 hM9 tk => skall _ r1_R2 r1_c2.r3 ((sk_n tkzz1y3 <| sk_h gA <| sk_lv ys <| sk_a D1 <| sk_h hA <| sk_n tkB <| sk_t t3 <| sk_n kB <| sk_t t2 <| sk_n j2 <| sk_t ta <| sk_n j1 <| sk_t t0 <| sk_n j0 <| sk_a x1 <| sk_a d1 <| sk_h hB <| sk_h gB <| sk_a L1 <| sk_h hC <| sk_n tkC <| sk_h hD <| sk_n xtr1 <| sk_a D2 <| sk_h hE <| sk_h hF <| sk_h hG <| sk_h hH <| sk_n tkD <| sk_a D3 <| sk_h hI9 <| sk_h hJ9 <| sk_n xtr2 <| sk_h hK9 <| sk_h hL9 <| sk_h hM9 <| sk_n tk <| dS), Wt)) 
end lead_spec_c
theorem lead_spec (w : World) (D : Addr) (vs : Array Value) (ks : List Nat) (tail : Nat) (t1 : Tok) : CtrK w 12 120 181 [.ref D, .int (tail : Int) t1] (fun h => h.IsList D vs ∧ IntsAre vs.toList (ks.map (Int.ofNat)) ∧ ks.length ≤ 20 ∧ ks.sum ≤ 60 ∧ tail ≤ 20)
      (fun s Q => ∀ (x dx nn nc : Addr) (xs : List Value) (T : Str) (k1 k2 k3 k4 k5 t0 tn tt tb : Tok) (hz : Heap) (tz : Nat), Keep s.heap hz → s.heap.get? x = none → s.heap.get? dx = none → s.heap.get? nn = none → s.heap.get? nc = none →
        hz.get? x = some (instObj 153 dx) → hz.get? dx = some (wsDict w T ((ks.sum + ks.length + tail : Nat) : Int) ((ks.length : Nat) : Int) nn (decide (((cntOf ks).length : Int) ≤ 1)) k1 k2 k3 k4 k5 t0 tn tt) → hz.get? nn = some (tupR nc (tail : Int) tb) → hz.get? nc = some (tupL xs) → IntsAre xs (cntOf ks) →
        (ltA dx x ∧ ltA x nc ∧ ltA nc nn) → Q (.ref x) { s with heap := hz, toks := tz }) :=
  lead_spec_k.2 (fun w D vs ks tail t1 mean mg mb dp un gd cn cs a ccd cl outer A₀ base h₀ L m s Q E L' h' => skall _ lead_spec_R lead_spec_c.r1 ((sk_w w <| sk_a D <| sk_av vs <| sk_n tail <| sk_t t1 <| sk_em mean <| sk_m mg <| sk_m mb <| sk_n dp <| sk_n un <| sk_oc gd <| sk_x cn <| sk_sc cs <| sk_a a <| sk_v ccd <| sk_sa cl <| sk_le outer <| sk_ar A₀ <| sk_h base <| sk_h h₀ <| sk_a L <| sk_m m <| sk_s s <| sk_q Q <| sk_q E <| sk_a L' <| sk_h h' <| dS), ks)) w D vs ks tail t1
end Mine.Internal
end
noncomputable section -- KeqN
open PySem PySem.W PyProof.Rows PyProof.V PySem.Spec PySem.SeqAt
namespace Mine.Internal
theorem reads_norm {h : Heap} {nn nc : Addr} {xs : List Value} {c : List Int} {tail : Int} {tb : Tok} (h1 : h.get? nn = some (tupR nc tail tb)) (h2 : h.get? nc = some (tupL xs)) (hi : IntsAre xs c) :
    Reads h (.ref nn) (.tuple [.tuple (c.map PyData.int), .int tail]) [] := by
  refine Reads.tuple (as := []) h1 rfl rfl ?_
  have r1 : Reads h (.ref nc) (.tuple (c.map PyData.int)) [] := Reads.tuple h2 rfl rfl (by simpa using readsAll_of_ints hi)
  exact ReadsAll.cons (as := []) (bs := []) r1 (ReadsAll.cons (as := []) (bs := []) (Reads.int _ _) .nil)
theorem shaped_norm (c : List Int) (t : Int) : shaped (.tuple [.tuple (c.map PyData.int), .int t]) = true := by
  have h1 := W.depthAll_ints c
  have h2 : PyData.depth (.tuple [.tuple (c.map PyData.int), .int t]) ≤ 64 := by simp only [PyData.depth, PyData.depthAll]; omega
  show (PyData.canLay0 _ && decide (PyData.depth (.tuple [.tuple (c.map PyData.int), .int t]) ≤ 64)) = true
  rw [Bool.and_eq_true]
  exact ⟨by simp only [PyData.canLay0, PyData.canLayAll0, canLayAll0_ints, Bool.and_self], decide_eq_true h2⟩
theorem same_norm (c d : List Int) (t u : Int) : Spec.same (.tuple [.tuple (c.map PyData.int), .int t]) (.tuple [.tuple (d.map PyData.int), .int u]) = decide (c = d ∧ t = u) := by
  simp only [Spec.same, Spec.sameAll, W.same_ints, Bool.and_true]
  by_cases h1 : c = d <;> by_cases h2 : t = u <;> simp [h1, h2]
theorem mix_norm (c d : List Int) (t u : Int) : noMix (.tuple [.tuple (c.map PyData.int), .int t]) (.tuple [.tuple (d.map PyData.int), .int u]) = true := by
  simp only [noMix, noMixAll, noMix_ints, Bool.and_self]
section
variable {prog : Program} {w : World} {A : Around} {E : Value → Shared → Prop} {s : Shared} {nn nc nn' nc' : Addr} {xs xs' : List Value} {c c' : List Int} {tail tail' : Int} {tb tb' : Tok} {Q : Value → Shared → Prop} {h₀ : Heap} {L : Addr} {news : List (Addr × Obj)}
theorem eq_norm (N : News h₀ L s.heap news) (h1 : (nn, tupR nc tail tb) ∈ news) (h2 : (nc, tupL xs) ∈ news) (h1' : (nn', tupR nc' tail' tb') ∈ news) (h2' : (nc', tupL xs') ∈ news) (hi : IntsAre xs c) (hi' : IntsAre xs' c') (hu : A.units + 64 < cLine)
    (h : Q (.bool (decide (c = c' ∧ tail = tail'))) s) : wpAny (model prog w) A (compareOp .Eq (.ref nn) (.ref nn')) Q E s :=
  eq_dataH_same (reads_norm (N _ h1).1 (N _ h2).1 hi) (reads_norm (N _ h1').1 (N _ h2').1 hi') (shaped_norm ..) (shaped_norm ..) hu (mix_norm ..) (by rw [same_norm]; exact h)
theorem ne_norm (N : News h₀ L s.heap news) (h1 : (nn, tupR nc tail tb) ∈ news) (h2 : (nc, tupL xs) ∈ news) (h1' : (nn', tupR nc' tail' tb') ∈ news) (h2' : (nc', tupL xs') ∈ news) (hi : IntsAre xs c) (hi' : IntsAre xs' c') (hu : A.units + 64 < cLine)
    (h : Q (.bool (!decide (c = c' ∧ tail = tail'))) s) : wpAny (model prog w) A (compareOp .NotEq (.ref nn) (.ref nn')) Q E s :=
  ne_dataH_same (reads_norm (N _ h1).1 (N _ h2).1 hi) (reads_norm (N _ h1').1 (N _ h2').1 hi') (shaped_norm ..) (shaped_norm ..) hu (mix_norm ..) (by rw [same_norm]; exact h)
end
end Mine.Internal
end
noncomputable section -- KloopR
open PySem PySem.W PySem.Calls PyProof.Rows
namespace Mine.Internal
section
variable {prog : Program} {w : World} {A : Around} {E E' E'' : Value → Shared → Prop} {s : Shared} {env : Env} {h₀ : Heap} {x : Str} {body : List Stmt} {Q : Flow → Shared → Prop}
theorem rs_one (a b : Int) : Builtin.Range.rangeSize a b 1 = ((b - a).toNat : Int) := by
  unfold Builtin.Range.rangeSize
  (repeat' split) <;> simp_all <;> omega
theorem rs_small {a b : Int} (h0 : 0 ≤ a) (h1 : a ≤ 1000) (h2 : 0 ≤ b) (h3 : b ≤ 1000) : Builtin.Range.small a b 1 = true := by
  unfold Builtin.Range.small
  rw [rs_one]
  unfold Builtin.Range.rangeFitsLong
  simp
  omega
theorem loopRange {a b : Int} {t u : Tok} {m : Str → Option Value} {news : List (Addr × Obj)} (J : Addr → Nat → (Str → Option Value) → List (Addr × Obj) → Prop) (hh : A.handled = none)
    (F : Fr h₀ env.locals s.heap m) (N : News h₀ env.locals s.heap news) (h0 : 0 ≤ a) (h1 : a ≤ 1000) (h2 : 0 ≤ b) (h3 : b ≤ 1000)
    (J0 : ∀ I, (∀ p ∈ news, p.1 < I) → J I 0 m news) (hJ : ∀ I i m₁ ns, J I i m₁ ns → ∀ p ∈ ns, p.1 ≠ I)
    (turn : ∀ I i u m₁ news₁ h tk it, i < (b - a).toNat → J I i m₁ news₁ → Fr h₀ env.locals h (fun y => if y = x then some (.int (a + (i : Nat)) u) else m₁ y) → News h₀ env.locals h ((I, it) :: news₁) →
      wpAny (model prog w) A (execs body env) (TurnEnd h₀ env.locals I it (J I (i + 1)) { s with heap := h, toks := tk } Q) E { s with heap := h, toks := tk })
    (done : ∀ I m' news' h' tk, J I (b - a).toNat m' news' → Fr h₀ env.locals h' m' → News h₀ env.locals h' news' → Q .next { s with heap := h', toks := tk }) :
    wpAny (model prog w) A (call (.type "range") [.int a t, .int b u]) (fun r s₁ => wpAny (model prog w) A (pyIter r) (fun it s₂ => LoopAtV prog w A h₀ env x body Q E it s₂) E' s₁) E'' s := by
  refine range2_rows F N fun h₁ tk₁ t₁ u₁ v₁ hr F₁ N₁ kp₁ => ?_
  refine wpAny_pyIter_range hr (rs_small h0 h1 h2 h3) ?_
  rw [rs_one]
  have kp := push_keep h₁ { cls := .type "range_iterator", data := .fields #[rawInt a, rawInt ((b - a).toNat : Int), rawInt 1] }
  have hnone : h₁.get? h₁.objs.size = none := by
    cases q : h₁.get? h₁.objs.size with
    | none => rfl
    | some o' => exact absurd (Heap.lt_size q) (Nat.lt_irrefl _)
  refine loopLit [] (J h₁.objs.size) (Walks.range hh _ a 1 (b - a).toNat) (fun i h hst => ⟨_, hst⟩) (fun b hb => .inl (List.mem_singleton.mp hb)) ?_ ?_ ?_ (frKeep F₁ kp) (newsKeep N₁ kp) (J0 _ fun p hp => Heap.lt_size (N₁ p hp).1) (fun i m₁ ns hj => ⟨fun p hp => (by cases hp), hJ _ _ _ _ hj⟩) ?_ ?_
  · intro hm
    have e := List.mem_singleton.mp hm
    obtain ⟨oL, _, _, hL, _⟩ := F₁.ns
    rw [e, hnone] at hL; cases hL
  · cases q : h₀.get? h₁.objs.size with
    | none => rfl
    | some o' => have := F₁.keep _ _ q; rw [hnone] at this; cases this
  · dsimp only
    have := Heap.get?_push_size h₁ (o := { cls := .type "range_iterator", data := .fields #[rawInt a, rawInt ((b - a).toNat : Int), rawInt 1] }) rfl
    simpa using this
  · rintro i v m₁ news₁ h tk it hi ⟨u, rfl⟩ hj F₁ N₁
    rw [Int.mul_one] at F₁
    exact turn _ i u m₁ news₁ h tk it hi hj F₁ N₁
  · intro m' news' h' tk hj F' N'
    exact done _ m' news' h' tk hj F' N'
end
theorem map2 (m M0 : Str → Option Value) (a b : Str) (h : ∀ z, z ≠ a → z ≠ b → m z = M0 z) : m = fun z => if z = a then m a else if z = b then m b else M0 z := by
  funext z
  by_cases h1 : z = a
  · rw [if_pos h1, h1]
  · by_cases h2 : z = b
    · rw [if_neg h1, if_pos h2, h2]
    · rw [if_neg h1, if_neg h2, h z h1 h2]
end Mine.Internal
end
noncomputable section -- Kind
theorem Mine.Internal.wTopOff25 : True := by w_top off; trivial
local macro_rules
  | `(tactic| walk_at $s:str) => match [("eval BinOp", "#bin"), ("spliced", "#args"), ("isTrue Compare", "#cmp"), ("exec Assign", "#asg0"), ("exec Return some", "#ret"), ("#step", "#st3"), ("#on", "#skip"), ("#om", "#omLKind"), ("call builtin:len", "#o1Kind"), ("subscriptTail", "#o2Kind")].lookup s.getString with
    | some r => `(tactic| walk_at $(Lean.Syntax.mkStrLit r))
    | none => Lean.Macro.throwUnsupported
theorem Mine.Internal.kwM_Kind : True := by
  k_with "#omLKind" => (first | walk_at "#omKind" | lia)
  trivial
theorem Mine.Internal.kwN_Kind : True := by
  k_with "#omKind" => (first | (with_reducible first | assumption | walk_at "#nz" | exact Nat.succ_le_of_lt ‹_› | exact Mine.Internal.u0 ‹_› | exact Mine.Internal.u1 ‹_› (by decide) | exact Mine.Internal.u2 ‹_› (by decide) | exact Mine.Internal.u3 ‹_› (by decide) | exact Mine.Internal.leC ‹_› (by decide) | exact Mine.Internal.ltC ‹_› (by decide) | exact Mine.Internal.ltD ‹_› (by decide) | exact Mine.Internal.leD ‹_› (by decide) | exact Mine.Internal.iltC ‹_› (by decide) | exact Mine.Internal.ileC ‹_› (by decide) | exact Mine.Internal.iltD ‹_› (by decide) | exact Mine.Internal.ileD ‹_› (by decide) | exact Mine.Internal.igtC ‹_› (by decide) | exact Mine.Internal.igeC ‹_› (by decide) | exact Mine.Internal.igtP ‹_› (by decide) | exact Mine.Internal.igeP ‹_› (by decide) | exact Mine.Internal.cltC ‹_› (by decide) | exact Mine.Internal.cleC ‹_› (by decide) | exact Mine.Internal.cgtC (by decide) | exact Mine.Internal.cgeC (by decide) | exact Mine.Internal.leE ‹_› ‹_› (by decide) | exact Mine.Internal.ltE ‹_› ‹_› (by decide) | exact Mine.Internal.cltE ‹_› ‹_› (by decide) | exact Mine.Internal.cltF ‹_› ‹_› (by decide) | exact Mine.Internal.cleF ‹_› ‹_› (by decide) | exact Mine.Internal.leF ‹_› ‹_› (by decide) | fail "om: none"))
  trivial
open PySem PySem.W PyProof.Rows
namespace Mine.Internal
set_option Elab.async false
theorem keepHide {h hz g' : Heap} {news : List (Addr × Obj)} (hg : hideAll h (news.map (·.1)) = g') (k : Keep g' hz) (h1 : ∀ p ∈ news, h.get? p.1 = some p.2) (h2 : ∀ p ∈ news, hz.get? p.1 = some p.2) : Keep h hz := by
  intro b o e
  by_cases hb : b ∈ news.map (·.1)
  · obtain ⟨p, hp, rfl⟩ := List.mem_map.mp hb
    rw [h1 p hp] at e; cases e
    exact h2 p hp
  · subst hg
    exact k b o (hideAll_get _ e hb)
noncomputable abbrev wsL (w : World) (x dx nn nc : Addr) (T : Str) (n nt : Int) (b : Bool) (k1 k2 k3 k4 k5 t0 tn tt tb : Tok) (tail : Int) (xs : List Value) : List (Addr × Obj) :=
  [(x, instObj 153 dx), (dx, wsDict w T n nt nn b k1 k2 k3 k4 k5 t0 tn tt), (nn, tupR nc tail tb), (nc, tupL xs)]
theorem lenTI {prog : Program} {w : World} {A : Around} {E : Value → Shared → Prop} {s : Shared} {l : Addr} {xs : List Value} {c : List Int} {Q : Value → Shared → Prop} (hl : IsTup s.heap l xs.toArray) (hi : IntsAre xs c) (hz : c.length ≤ 1000) (h : Q (.int (c.length : Int) (s.toks + 1)) { s with toks := s.toks + 1 + 1 }) :
    wpAny (model prog w) A (call (.builtin "len") [.ref l]) Q E s :=
  kun_lenT hl (by have := hi.length; simp [this]) (by omega) h
noncomputable def IndJ (M0 : Str → Option Value) (Rt : List (Addr × Obj)) (x dx nn nc : Addr) (size : Nat) (c : List Int) (I : Addr) (i : Nat) (m : Str → Option Value) (ns : List (Addr × Obj)) : Prop :=
  ns = Rt ∧ (ltA x I ∧ ltA dx I ∧ ltA nn I ∧ ltA nc I) ∧ ∃ t, (∀ z, z ≠ Str.ofString "i" → z ≠ Str.ofString "il" → m z = M0 z) ∧ m (Str.ofString "il") = some (.int (colL size size ((c.drop size).take i)) t)
theorem IndJ.mk' {M0 : Str → Option Value} {Rt : List (Addr × Obj)} {x dx nn nc : Addr} {size : Nat} {c : List Int} {I : Addr} {i : Nat} {m : Str → Option Value} {v : Int} {t : Tok} (lI : ltA x I ∧ ltA dx I ∧ ltA nn I ∧ ltA nc I) (hm : ∀ z, z ≠ Str.ofString "i" → z ≠ Str.ofString "il" → m z = M0 z) (hi : m (Str.ofString "il") = some (.int v t)) (e : v = colL size size ((c.drop size).take i)) : IndJ M0 Rt x dx nn nc size c I i m Rt :=
  ⟨rfl, lI, t, hm, e ▸ hi⟩
theorem colL_step {size : Nat} {c : List Int} {i : Nat} {v : Int} (hv : c[size + i]? = some v) : colL size size ((c.drop size).take (i + 1)) = colL size size ((c.drop size).take i) + ((size : Int) + (i : Int)).fdiv size * v := by
  have h1 : (c.drop size)[i]? = some v := by rw [List.getElem?_drop]; exact hv
  have h2 : i < (c.drop size).length := (List.getElem?_eq_some_iff.mp h1).1
  rw [List.take_add_one, h1, Option.toList_some, colL_append, List.length_take, Nat.min_eq_left (by omega)]
  simp [colL]
noncomputable def Stop (p : Prop) : Prop := p
theorem stopHere {p : Prop} (h : Stop p) : p := h
theorem Mine.Internal.kw1_Kind : True := by
  k_with "#o1Kind" => (k_here; (with_reducible show wpAny _ _ (call (Value.builtin "len") [Value.ref _]) _ _ _); k_dflt (refine lenTI (News.isTup (by k_asm) (by k_mem)) (by assumption) (by omega) ?_))
  trivial
local macro_rules | `(tactic| walk_at "call type:range") => `(tactic| (k_here; refine stopHere ?_))
theorem Mine.Internal.kw2_Kind : True := by
  k_with "#o2Kind" => (k_here; (with_reducible show wpAny _ _ (subscriptTail _ _ (Value.ref _) (Value.int _ _)) _ _ _); k_dflt (refine item_tuple_ints (News.isTup (by k_asm) (by k_mem)) (by assumption) (by omega) (by omega) (by omega) ?_); intro _)
  trivial
noncomputable def ind_spec_k : Σ' (P1 : World → Addr → Addr → Addr → Addr → Str → Int → Int → Bool → Tok → Tok → Tok → Tok → Tok → Tok → Tok → Tok → Tok → Int → (List Value) → (List Int) → Nat → Tok → (ExcName → Option Value) → (Str → Option Value) → (Str → Option Value) → Nat → Nat → (Option (List Code)) → Str → Scope → Addr → Value → (List (Str × Addr)) → (List Env) → Around → Heap → Heap → Addr → (Str → Option Value) → Shared → (Value → Shared → Prop) → (Value → Shared → Prop) → Heap → Addr → Heap → Prop), (∀ w x dx nn nc T n nt b k1 k2 k3 k4 k5 t0 tn tt tb tail xs c size t1 mean mg mb dp un gd cn cs a ccd cl outer A₀ base h₀ L m s Q E g' L' h', P1 w x dx nn nc T n nt b k1 k2 k3 k4 k5 t0 tn tt tb tail xs c size t1 mean mg mb dp un gd cn cs a ccd cl outer A₀ base h₀ L m s Q E g' L' h') → ∀ (w : World) (x dx nn nc : Addr) (T : Str) (n nt : Int) (b : Bool) (k1 k2 k3 k4 k5 t0 tn tt tb : Tok) (tail : Int) (xs : List Value) (c : List Int) (size : Nat) (t1 : Tok), CtrT w 12 120 122 (wsL w x dx nn nc T n nt b k1 k2 k3 k4 k5 t0 tn tt tb tail xs) [.ref x, .int (size : Int) t1] (fun _ => IntsAre xs c ∧ 1 ≤ size ∧ size ≤ 4 ∧ c.length ≤ 100 ∧ (∀ v ∈ c, 0 ≤ v ∧ v ≤ 100) ∧ 0 ≤ tail ∧ tail ≤ 100 ∧ 0 ≤ nt ∧ nt ≤ 100 ∧ (ltA dx x ∧ ltA x nc ∧ ltA nc nn))
      (fun _ s Q => ∀ (t : Tok) (hz : Heap) (tz : Nat), Keep s.heap hz → Q (.int (tail + size * (colI size c + nt)) t) { s with heap := hz, toks := tz }) := ⟨_, by
  intro hP_1 w x dx nn nc T n nt b k1 k2 k3 k4 k5 t0 tn tt tb tail xs c size t1
  dsimp only [CtrT, P0, LS]
  k_fill
  intro mean mg mb dp un gd cn cs a ccd cl outer A₀ base h₀ L m s Q E B F X N TT hk C1 C2 hpre hdp hun hret
  obtain ⟨hI, hs1, hs2, hcl, hcb, ht0, ht1, hn0, hn1, hlt⟩ := hpre
  have hN := fun p hp => (N p hp).1
  refine wpAny_call ?_
  k_dflt (refine' enterT ?k1 ?k2 ?k3 ?k4 ?k5 ?kA ?kF ?kK ?k6 ?k7 ?k8 ?k9 ?kB ?kC1 ?kC2 ?_ ?c2 ?c3 ?c4 ?c5; walk_at "#c0"; k_whole)
  have hg0 : hideAll s.heap (List.map (·.1) (wsL w x dx nn nc T n nt b k1 k2 k3 k4 k5 t0 tn tt tb tail xs)) = hideAll s.heap [x, dx, nn, nc] := rfl
  rw [hg0]
  generalize hg : hideAll s.heap [x, dx, nn, nc] = g' at *
  clear C1 C2 N F B X TT
  intro L' h' F' N' B' X' T' C1 C2 l1
  (try k_lt l1)
  (try dsimp only)
  (try k_lift B')
  (try k_fold)
  revert hk hdp hun hret hI hs1 hs2 hcl hcb ht0 ht1 hn0 hn1 hlt hN hg hg0 F' N' B' X' T' C1 C2 l1
  exact hP_1 w x dx nn nc T n nt b k1 k2 k3 k4 k5 t0 tn tt tb tail xs c size t1 mean mg mb dp un gd cn cs a ccd cl outer A₀ base h₀ L m s Q E g' L' h'⟩
noncomputable def ind_spec_R (z : Sk × Bool) : Prop := ind_spec_k.1 (z.1.w 0) (z.1.a 0) (z.1.a 1) (z.1.a 2) (z.1.a 3) (z.1.x 0) (z.1.i 0) (z.1.i 1) z.2 (z.1.t 0) (z.1.t 1) (z.1.t 2) (z.1.t 3) (z.1.t 4) (z.1.t 5) (z.1.t 6) (z.1.t 7) (z.1.t 8) (z.1.i 2) (z.1.lv 0) (z.1.li 0) (z.1.n 0) (z.1.t 9) (z.1.em 0) (z.1.m 0) (z.1.m 1) (z.1.n 1) (z.1.n 2) (z.1.oc 0) (z.1.x 1) (z.1.sc 0) (z.1.a 4) (z.1.v 0) (z.1.sa 0) (z.1.le 0) (z.1.ar 0) (z.1.h 0) (z.1.h 1) (z.1.a 5) (z.1.m 2) (z.1.s 0) (z.1.q 0) (z.1.q 1) (z.1.h 2) (z.1.a 6) (z.1.h 3)
noncomputable def ind_spec_z : Sk × Bool := skd (dS, default) ind_spec_R
namespace ind_spec_c
def w := ind_spec_z.1.w 0
def x := ind_spec_z.1.a 0
def dx := ind_spec_z.1.a 1
def nn := ind_spec_z.1.a 2
def nc := ind_spec_z.1.a 3
def T := ind_spec_z.1.x 0
def n := ind_spec_z.1.i 0
def nt := ind_spec_z.1.i 1
def b := ind_spec_z.2
def k1 := ind_spec_z.1.t 0
def k2 := ind_spec_z.1.t 1
def k3 := ind_spec_z.1.t 2
def k4 := ind_spec_z.1.t 3
def k5 := ind_spec_z.1.t 4
def t0 := ind_spec_z.1.t 5
def tn := ind_spec_z.1.t 6
def tt := ind_spec_z.1.t 7
def tb := ind_spec_z.1.t 8
def tail := ind_spec_z.1.i 2
def xs := ind_spec_z.1.lv 0
def c := ind_spec_z.1.li 0
def size := ind_spec_z.1.n 0
theorem r1 : ind_spec_k.1 w x dx nn nc T n nt b k1 k2 k3 k4 k5 t0 tn tt tb tail xs c size (ind_spec_z.1.t 9) (ind_spec_z.1.em 0) (ind_spec_z.1.m 0) (ind_spec_z.1.m 1) (ind_spec_z.1.n 1) (ind_spec_z.1.n 2) (ind_spec_z.1.oc 0) (ind_spec_z.1.x 1) (ind_spec_z.1.sc 0) (ind_spec_z.1.a 4) (ind_spec_z.1.v 0) (ind_spec_z.1.sa 0) (ind_spec_z.1.le 0) (ind_spec_z.1.ar 0) (ind_spec_z.1.h 0) (ind_spec_z.1.h 1) (ind_spec_z.1.a 5) (ind_spec_z.1.m 2) (ind_spec_z.1.s 0) (ind_spec_z.1.q 0) (ind_spec_z.1.q 1) (ind_spec_z.1.h 2) (ind_spec_z.1.a 6) (ind_spec_z.1.h 3) := by
  intro hk hdp hun hret hI hs1 hs2 hcl hcb ht0 ht1 hn0 hn1 hlt hN hg hg0 F' N' B' X' T' C1 C2 l1
  dsimp only [ltA] at hlt
  k_steps
  unfold Stop
  (with_reducible rename Fr _ _ _ _ => kF)
  (with_reducible rename News _ _ _ _ => kN)
  refine nameFr kF (fun M0 hM0 kF => ?_)
  refine loopRange (IndJ M0 (wsL w x dx nn nc T n nt b k1 k2 k3 k4 k5 t0 tn tt tb tail xs) x dx nn nc size c) rfl kF kN (by omega) (by omega) (by omega) (by omega) ?g1 ?g2 ?g3 ?g4
  case g1 =>
    intro I hI0
    k_lt hI0
    exact ⟨rfl, hI0, _, fun _ _ _ => rfl, by rw [← hM0]; rfl⟩
  case g2 =>
    rintro I i m₁ ns ⟨rfl, lI, -⟩ p hp
    simp only [wsL, List.mem_cons, List.not_mem_nil, or_false] at hp
    rcases hp with rfl | rfl | rfl | rfl
    · exact Nat.ne_of_lt lI.1
    · exact Nat.ne_of_lt lI.2.1
    · exact Nat.ne_of_lt lI.2.2.1
    · exact Nat.ne_of_lt lI.2.2.2
  case g3 =>
    intro I i u m₁ news₁ hh tkk it hi hJ F N
    obtain ⟨rfl, lI, t, hm, hmi⟩ := hJ
    have em := map2 _ _ _ _ hm
    rw [hmi] at em
    generalize m₁ (Str.ofString "i") = vc at em
    subst em
    clear hm hmi
    obtain ⟨v, hv⟩ : ∃ v, c[size + i]? = some v := ⟨_, List.getElem?_eq_getElem (by omega)⟩
    have hvb := hcb v (List.mem_of_getElem? hv)
    have hgd : c.getD ((size : Int) + (i : Int)).toNat 0 = v := by
      have e : ((size : Int) + (i : Int)).toNat = size + i := by omega
      rw [e, List.getD_eq_getElem?_getD, hv]; rfl
    generalize hJn : IndJ M0 (wsL w x dx nn nc T n nt b k1 k2 k3 k4 k5 t0 tn tt tb tail xs) x dx nn nc size c I (i + 1) = Jn
    dsimp only [ltA] at lI
    generalize hM1 : M0 = M1 at hJn
    subst hM0
    clear kF kN
    k_steps
    (with_reducible rename Fr _ _ _ _ => zF)
    (with_reducible rename News _ _ _ _ => zN)
    subst hJn hM1
    refine turnNext zF zN (IndJ.mk' lI (fun z n1 n2 => ?_) rfl ?_) id
    · simp only [if_neg n1, if_neg n2]
    · rw [hgd, colL_step hv]
  case g4 =>
    rintro I m' news' hz tz ⟨rfl, lI, t, hm, hmi⟩ F N
    have em := map2 _ _ _ _ hm
    rw [hmi] at em
    generalize m' (Str.ofString "i") = vc at em
    subst em
    clear hm hmi
    subst hM0
    clear kF kN
    have ecol : colL size size ((c.drop size).take ((c.length : Int) - (size : Int)).toNat) = colI size c := by
      unfold colI
      rw [List.take_of_length_le (by simp)]
    rw [ecol] at F
    k_steps
    (try dsimp only)
    exact hret _ _ _ (keepHide hg0 F.keep hN (fun p hp => (N p hp).1))
end ind_spec_c
theorem ind_spec (w : World) (x dx nn nc : Addr) (T : Str) (n nt : Int) (b : Bool) (k1 k2 k3 k4 k5 t0 tn tt tb : Tok) (tail : Int) (xs : List Value) (c : List Int) (size : Nat) (t1 : Tok) : CtrT w 12 120 122 (wsL w x dx nn nc T n nt b k1 k2 k3 k4 k5 t0 tn tt tb tail xs) [.ref x, .int (size : Int) t1] (fun _ => IntsAre xs c ∧ 1 ≤ size ∧ size ≤ 4 ∧ c.length ≤ 100 ∧ (∀ v ∈ c, 0 ≤ v ∧ v ≤ 100) ∧ 0 ≤ tail ∧ tail ≤ 100 ∧ 0 ≤ nt ∧ nt ≤ 100 ∧ (ltA dx x ∧ ltA x nc ∧ ltA nc nn))
      (fun _ s Q => ∀ (t : Tok) (hz : Heap) (tz : Nat), Keep s.heap hz → Q (.int (tail + size * (colI size c + nt)) t) { s with heap := hz, toks := tz }) :=
  ind_spec_k.2 (fun w x dx nn nc T n nt b k1 k2 k3 k4 k5 t0 tn tt tb tail xs c size t1 mean mg mb dp un gd cn cs a ccd cl outer A₀ base h₀ L m s Q E g' L' h' => skall _ ind_spec_R ind_spec_c.r1 ((sk_w w <| sk_a x <| sk_a dx <| sk_a nn <| sk_a nc <| sk_x T <| sk_i n <| sk_i nt <| sk_t k1 <| sk_t k2 <| sk_t k3 <| sk_t k4 <| sk_t k5 <| sk_t t0 <| sk_t tn <| sk_t tt <| sk_t tb <| sk_i tail <| sk_lv xs <| sk_li c <| sk_n size <| sk_t t1 <| sk_em mean <| sk_m mg <| sk_m mb <| sk_n dp <| sk_n un <| sk_oc gd <| sk_x cn <| sk_sc cs <| sk_a a <| sk_v ccd <| sk_sa cl <| sk_le outer <| sk_ar A₀ <| sk_h base <| sk_h h₀ <| sk_a L <| sk_m m <| sk_s s <| sk_q Q <| sk_q E <| sk_h g' <| sk_a L' <| sk_h h' <| dS), b)) w x dx nn nc T n nt b k1 k2 k3 k4 k5 t0 tn tt tb tail xs c size t1
end Mine.Internal
end
noncomputable section -- Klead2
open PySem PySem.W PyProof.Rows
namespace Mine.Internal
set_option Elab.async false
theorem newsKeepC {h₀ h h' : Heap} {L d : Addr} {m : Str → Option Value} {o : Obj} {news : List (Addr × Obj)} (F : Fr h₀ L h m) (N : News h₀ L h' news) (hn : h.get? d = none) (ho : h'.get? d = some o) : News h₀ L h' ((d, o) :: news) := by
  intro p hp
  rcases List.mem_cons.mp hp with rfl | hp
  · obtain ⟨oL, _, _, hL, _⟩ := F.ns
    refine ⟨ho, fun e => ?_, ?_⟩
    · have e' : d = L := e
      rw [e', hL] at hn; cases hn
    · cases q : h₀.get? d with
      | none => rfl
      | some o' => have := F.keep _ _ q; rw [this] at hn; cases hn
  · exact N p hp
theorem lead_ctr (w : World) (D : Addr) (vs : Array Value) (ks : List Nat) (tail : Nat) (z : Int) (t1 : Tok) (mean : ExcName → Option Value) (mg mb : Str → Option Value) (dp un : Nat) (gd : Option (List Code)) (cn : Str) (cs : Scope) (a : Addr) (ccd : Value) (cl : List (Str × Addr)) (outer : List Env) (A₀ : Around) (base h₀ : Heap) (L : Addr) (m : Str → Option Value) (news : List (Addr × Obj)) (s : Shared) (Q E : Value → Shared → Prop)
    (B : Below A₀ base outer h₀) (F : Fr h₀ L s.heap m) (X : (hd.heap_1 w.params).In h₀) (N : News h₀ L s.heap news) (T : Top topProg LS mean mg mb h₀) (hk : cs.kind = .function)
    (hL : s.heap.IsList D vs) (hI : IntsAre vs.toList (ks.map (Int.ofNat))) (h1 : ks.length ≤ 20) (h2 : ks.sum ≤ 60) (h3 : tail ≤ 20) (hz : z = (tail : Int)) (hdp : dp + 12 < recursionLimit) (hun : un + 120 < cLine)
    (hq : ∀ (x dx nn nc : Addr) (xs : List Value) (T : Str) (k1 k2 k3 k4 k5 t0 tn tt tb : Tok) (hz : Heap) (tz : Nat), Fr h₀ L hz m → News h₀ L hz ((x, instObj 153 dx) :: (dx, wsDict w T ((ks.sum + ks.length + tail : Nat) : Int) ((ks.length : Nat) : Int) nn (decide (((cntOf ks).length : Int) ≤ 1)) k1 k2 k3 k4 k5 t0 tn tt) :: (nn, tupR nc (tail : Int) tb) :: (nc, tupL xs) :: news) →
      IntsAre xs (cntOf ks) → (ltA dx x ∧ ltA x nc ∧ ltA nc nn) → Q (.ref x) { s with heap := hz, toks := tz }) :
    wpAny (model P0 w) (ktrTop dp un gd cn cs L a ccd cl outer) (call (.ref 181) [.ref D, .int z t1]) Q E s := by
  subst hz
  exact lead_spec w D vs ks tail t1 mean mg mb dp un gd cn cs a ccd cl outer A₀ base h₀ L m s Q E B F X T hk ⟨hL, hI, h1, h2, h3⟩ hdp hun fun x dx nn nc xs T k1 k2 k3 k4 k5 t0 tn tt tb hz tz kp n1 n2 n3 n4 g1 g2 g3 g4 hX hlt =>
    hq x dx nn nc xs T k1 k2 k3 k4 k5 t0 tn tt tb hz tz (frKeep F kp) (newsKeepC F (newsKeepC F (newsKeepC F (newsKeepC F (newsKeep N kp) n4 g4) n3 g3) n2 g2) n1 g1) hX hlt
section
variable {prog : Program} {w : World} {A : Around} {E : Value → Shared → Prop} {s : Shared} {nn nc nn' nc' : Addr} {xs xs' : List Value} {c c' : List Int} {tail tail' : Int} {tb tb' : Tok} {Q : Value → Shared → Prop} {h₀ : Heap} {L : Addr} {news : List (Addr × Obj)}
theorem eq_normT (N : News h₀ L s.heap news) (h1 : (nn, tupR nc tail tb) ∈ news) (h2 : (nc, tupL xs) ∈ news) (h1' : (nn', tupR nc' tail tb') ∈ news) (h2' : (nc', tupL xs') ∈ news) (hi : IntsAre xs c) (hi' : IntsAre xs' c) (hu : A.units + 64 < cLine)
    (h : Q (.bool true) s) : wpAny (model prog w) A (compareOp .Eq (.ref nn) (.ref nn')) Q E s :=
  eq_norm N h1 h2 h1' h2' hi hi' hu (by rw [decide_eq_true ⟨rfl, rfl⟩]; exact h)
theorem eq_normF (N : News h₀ L s.heap news) (h1 : (nn, tupR nc tail tb) ∈ news) (h2 : (nc, tupL xs) ∈ news) (h1' : (nn', tupR nc' tail' tb') ∈ news) (h2' : (nc', tupL xs') ∈ news) (hi : IntsAre xs c) (hi' : IntsAre xs' c') (hu : A.units + 64 < cLine) (hn : ¬ (c = c' ∧ tail = tail'))
    (h : Q (.bool false) s) : wpAny (model prog w) A (compareOp .Eq (.ref nn) (.ref nn')) Q E s :=
  eq_norm N h1 h2 h1' h2' hi hi' hu (by rw [decide_eq_false hn]; exact h)
theorem ne_normF (N : News h₀ L s.heap news) (h1 : (nn, tupR nc tail tb) ∈ news) (h2 : (nc, tupL xs) ∈ news) (h1' : (nn', tupR nc' tail tb') ∈ news) (h2' : (nc', tupL xs') ∈ news) (hi : IntsAre xs c) (hi' : IntsAre xs' c) (hu : A.units + 64 < cLine)
    (h : Q (.bool false) s) : wpAny (model prog w) A (compareOp .NotEq (.ref nn) (.ref nn')) Q E s :=
  ne_norm N h1 h2 h1' h2' hi hi' hu (by rw [decide_eq_true ⟨rfl, rfl⟩]; exact h)
end
theorem ind_ctr (w : World) (x dx nn nc : Addr) (T : Str) (n nt : Int) (b : Bool) (k1 k2 k3 k4 k5 t0 tn tt tb : Tok) (tail : Int) (xs : List Value) (c : List Int) (z : Int) (t1 : Tok) (mean : ExcName → Option Value) (mg mb : Str → Option Value) (dp un : Nat) (gd : Option (List Code)) (cn : Str) (cs : Scope) (a : Addr) (ccd : Value) (cl : List (Str × Addr)) (outer : List Env) (A₀ : Around) (base h₀ : Heap) (L : Addr) (m : Str → Option Value) (news : List (Addr × Obj)) (s : Shared) (Q E : Value → Shared → Prop)
    (B : Below A₀ base outer h₀) (F : Fr h₀ L s.heap m) (X : (hd.heap_1 w.params).In h₀) (N : News h₀ L s.heap news) (T' : Top topProg LS mean mg mb h₀) (hk : cs.kind = .function) (C1 : CodeHd h₀ 69 65) (C2 : CodeHd h₀ 76 72)
    (m1 : (x, instObj 153 dx) ∈ news) (m2 : (dx, wsDict w T n nt nn b k1 k2 k3 k4 k5 t0 tn tt) ∈ news) (m3 : (nn, tupR nc tail tb) ∈ news) (m4 : (nc, tupL xs) ∈ news)
    (hI : IntsAre xs c) (h1 : 1 ≤ z) (h2 : z ≤ 4) (h3 : c.length ≤ 100) (h4 : ∀ v ∈ c, 0 ≤ v ∧ v ≤ 100) (h5 : 0 ≤ tail ∧ tail ≤ 100 ∧ 0 ≤ nt ∧ nt ≤ 100) (hlt : ltA dx x ∧ ltA x nc ∧ ltA nc nn)
    (hdp : dp + 12 < recursionLimit) (hun : un + 120 < cLine)
    (hq : ∀ (t : Tok) (hz : Heap) (tz : Nat), Fr h₀ L hz m → News h₀ L hz news → Q (.int (tail + z * (colI z.toNat c + nt)) t) { s with heap := hz, toks := tz }) :
    wpAny (model P0 w) (ktrTop dp un gd cn cs L a ccd cl outer) (call (.ref 122) [.ref x, .int z t1]) Q E s := by
  have hz : z = (z.toNat : Int) := by omega
  rw [hz]
  exact ind_spec w x dx nn nc T n nt b k1 k2 k3 k4 k5 t0 tn tt tb tail xs c z.toNat t1 mean mg mb dp un gd cn cs a ccd cl outer A₀ base h₀ L m s Q E B F X (fun p hp => by
      simp only [wsL, List.mem_cons, List.not_mem_nil, or_false] at hp
      rcases hp with rfl | rfl | rfl | rfl
      · exact N _ m1
      · exact N _ m2
      · exact N _ m3
      · exact N _ m4) T' hk C1 C2 ⟨hI, by omega, by omega, h3, h4, h5.1, h5.2.1, h5.2.2.1, h5.2.2.2, hlt⟩ hdp hun fun t hz' tz kp => by rw [← hz]; exact hq t hz' tz (frKeep F kp) (newsKeep N kp)
end Mine.Internal
end
noncomputable section -- Kdeal
theorem Mine.Internal.wTopOff26 : True := by w_top off; trivial
local macro_rules
  | `(tactic| walk_at $s:str) => match [("eval BinOp", "#bin"), ("spliced", "#args"), ("isTrue Compare", "#cmp"), ("exec Assign", "#asg0"), ("exec Return some", "#ret"), ("#step", "#st3"), ("#on", "#skip"), ("#om", "#omKdeal"), ("compareOp NotEq ref ref", "#o1Kdeal"), ("compareOp Eq ref ref", "#o2Kdeal"), ("call builtin:len", "#o3Kdeal"), ("call ref", "#o5Kdeal"), ("exec If", "#o6Kdeal"), ("call type:tuple", "#o7Kdeal")].lookup s.getString with
    | some r => `(tactic| walk_at $(Lean.Syntax.mkStrLit r))
    | none => Lean.Macro.throwUnsupported
theorem Mine.Internal.kwU_Kdeal : True := by
  k_with "#omKdeal" => (first | (with_reducible first | exact Mine.Internal.leC aL (by decide) | exact Mine.Internal.leC aS (by decide) | exact Mine.Internal.leC aM (by decide) | exact Mine.Internal.leC aT (by decide) | exact Mine.Internal.leC nr (by decide) | exact Mine.Internal.sucC nr (by decide) | exact Mine.Internal.bLt xr (by decide) | exact Mine.Internal.bLe xr (by decide) | exact Mine.Internal.bGt xr (by decide) | exact Mine.Internal.bGe xr (by decide) | exact Mine.Internal.bLt xA (by decide) | exact Mine.Internal.bLe xA (by decide) | exact Mine.Internal.bGt xA (by decide) | exact Mine.Internal.bGe xA (by decide) | exact Mine.Internal.bLt xi (by decide) | exact Mine.Internal.bLe xi (by decide) | exact Mine.Internal.bGt xi (by decide) | exact Mine.Internal.bGe xi (by decide) | exact Mine.Internal.nabs xi | exact Mine.Internal.xine | exact Mine.Internal.leC (Mine.Internal.flat1 hr1 hA2) (by decide) | exact Mine.Internal.sucC (Mine.Internal.flat1 hr1 hA2) (by decide) | exact Mine.Internal.sucC (Mine.Internal.flat2 hqle hS) (by decide) | exact Mine.Internal.sucC (Mine.Internal.sucC (Mine.Internal.flat2 hqle hS) (Nat.le_refl _)) (by decide) | exact Mine.Internal.leC hcl3 (by decide) | exact Mine.Internal.ltC hcl3 (by decide) | exact Mine.Internal.leE hwl hcl3 (by decide) | exact Mine.Internal.bLt (Mine.Internal.nat0 (Nat.le_trans hqle hS)) (by decide) | exact Mine.Internal.bLe (Mine.Internal.nat0 (Nat.le_trans hqle hS)) (by decide) | exact Mine.Internal.bGt (Mine.Internal.nat0 (Nat.le_trans hqle hS)) (by decide) | exact Mine.Internal.bGe (Mine.Internal.nat0 (Nat.le_trans hqle hS)) (by decide) | exact Mine.Internal.posI h0 | exact Mine.Internal.nposI h0 | exact Mine.Internal.nltI | exact Mine.Internal.ngeI hr1 | exact Mine.Internal.leC hS (by decide) | exact Mine.Internal.leC hA2 (by decide) | exact Mine.Internal.leC (Mine.Internal.nr0 hr1 hA2) (by decide) | exact Mine.Internal.u3 ‹_› (by decide) | exact Mine.Internal.u2 ‹_› (by decide) | exact Mine.Internal.u1 ‹_› (by decide) | exact Mine.Internal.u0 (k := 44) ‹_› | exact Mine.Internal.u0 (k := 440) ‹_› | fail "om: none"))
  trivial
open PySem PySem.W PyProof.Rows
namespace Mine.Internal
theorem TFa.keep {h h' : Heap} {c1 : Addr} {oc1 : Obj} {vs1 : Array Value} {tq1 : Tok} {c2 : Addr} {oc2 : Obj} {vs2 : Array Value} {tq2 : Tok} (t : TFa h c1 oc1 vs1 tq1 c2 oc2 vs2 tq2) (k : Keep h h') : TFa h' c1 oc1 vs1 tq1 c2 oc2 vs2 tq2 :=
  ⟨t.n1, t.n2, t.n3, t.n4, k _ _ t.g1, k _ _ t.g2, k _ _ t.o1, t.d1, t.v1, k _ _ t.o2, t.d2, t.v2⟩
set_option Elab.async false
noncomputable def Passed : Prop := True
theorem Mine.Internal.kw1_Kdeal : True := by
  k_with "#o1Kdeal" => (k_here; k_dflt (refine ne_normF (by k_asm) (by k_mem) (by k_mem) (by k_mem) (by k_mem) (by assumption) (by assumption) (by ktr_units) ?_))
  k_with "#o2Kdeal" => (k_here; k_dflt (first | refine eq_normT (by k_asm) (by k_mem) (by k_mem) (by k_mem) (by k_mem) (by assumption) (by assumption) (by ktr_units) ?_ | refine eq_normF (by k_asm) (by k_mem) (by k_mem) (by k_mem) (by k_mem) (by assumption) (by assumption) (by ktr_units) (by assumption) ?_))
  k_with "#o3Kdeal" => (k_here; (with_reducible show wpAny _ _ (call (Value.builtin "len") [Value.ref _]) _ _ _); k_dflt (first | refine kun_lenL (by is_list) (by assumption) (by omega) ?_ | refine lenTI (News.isTup (by k_asm) (by k_mem)) (by assumption) (by omega) ?_))
  k_with "#o4Kdeal" => (k_here; (try dsimp only); (first | (with_reducible show wpAny _ _ (call (Value.ref 115) _) _ _ _) | (with_reducible show wpAny _ _ (call (Value.ref 129) _) _ _ _)); (refine wpAny_call ?_); (try simp only [List.cons_append, List.nil_append, List.append_nil]); k_dflt (refine' code_def ?k1 ?k2 ?k3 ?k4 ?k5 ?kA ?kF ?kK ?k6 ?k7 ?k8 ?k9 ?kB ?_ ?c2 ?c3 ?c4 ?c5; (case kA => exact rfl); (case kF => exact rfl); (case kK => exact rfl); (case k1 => k_asm); (case k2 => k_asm); (case k3 => k_asm); (case k4 => k_asm); (case k5 => k_asm); (case k6 => k_is); (case k7 => k_is); (case k8 => ktr_room); (case k9 => exact BindsTo.of_eq rfl); (case c5 => decide); (case kB => exact locs rfl); (case c2 => exact rfl); (case c3 => exact rfl); (case c4 => exact rfl); k_whole))
  k_with "#o5Kdeal" => (k_here; (with_reducible show wpAny _ _ (call (Value.ref 122) _) _ _ _); k_dflt (refine' ind_ctr _ _ _ _ _ _ _ _ _ _ _ _ _ _ _ _ _ _ _ _ _ _ _ _ _ _ _ _ _ _ _ _ _ _ _ _ _ _ _ _ _ _ _ _ ?k1 ?k2 ?k3 ?k4 ?k5 ?k6 ?kc1 ?kc2 ?m1 ?m2 ?m3 ?m4 ?i1 ?i2 ?i3 ?i4 ?i5 ?i6 ?i7 ?k12 ?k13 ?_; (case k1 => k_asm); (case k2 => k_asm); (case k3 => k_asm); (case k4 => k_asm); (case k5 => k_asm); (case k6 => exact rfl); (case kc1 => assumption); (case kc2 => assumption); (case m1 => k_mem); (case m2 => k_mem); (case m3 => k_mem); (case m4 => k_mem); (case i1 => assumption); (case i2 => omega); (case i3 => omega); (case i4 => omega); (case i5 => assumption); (case i6 => omega); (case i7 => assumption); (case k12 => ktr_room); (case k13 => ktr_units); k_whole); intro _ _ _ _ _; (try dsimp only); (try k_fold))
  k_with "#o6Kdeal" => (k_here; (with_reducible show wpAny _ _ (exec (Stmt.If (Expr.Compare (Expr.Name (Str.ofString "rest") _) _ _ _) _ _ _) _) _ _ _); (fail_if_success (have : Passed := by assumption)); refine stopHere ?_)
  trivial
local macro_rules | `(tactic| walk_at "call ref") => `(tactic| (walk_at "#o4Kdeal"; intro g' L' h' FG' F' N' B' X' T'; (try dsimp only); (try k_lift B'); (try k_fold)))
local macro_rules | `(tactic| walk_at "call type:range") => `(tactic| (k_here; refine stopHere ?_))
theorem Mine.Internal.kw7_Kdeal : True := by
  k_with "#o7Kdeal" => (k_here; (with_reducible show wpAny _ _ (call (Value.type _) [Value.ref _]) _ _ _); k_dflt (refine' kde_tupleOf ?k1 ?k2 ?k3 ?k4 ?k5 ?_; (case k1 => k_asm); (case k2 => k_asm); (case k3 => exact News.isList (by k_asm) (by k_mem)); (case k4 => simp only [List.size_toArray]; omega); (case k5 => exact rfl); k_whole); intro _ _ _ _ l1; (try k_lt l1); revert l1; intro _; (try k_sweep))
  trivial
theorem cntQ_pos {q A r : Nat} (h : r < A) (h0 : 0 < r) : cntQ q (A - r) r = (List.replicate (q : Int).toNat [(0 : Int)]).flatten ++ [(A : Int) - (r : Int)] ++ [(r : Int)] := by
  unfold cntQ
  rw [if_pos h0, Int.toNat_natCast, List.flatten_replicate_singleton, List.append_assoc]
  congr 2
  show ((A - r : Nat) : Int) = _
  omega
theorem cntQ_nil {q A r : Nat} (h : r < A) (h0 : ¬ 0 < r) : cntQ q (A - r) r = (List.replicate (q : Int).toNat [(0 : Int)]).flatten ++ [(A : Int) - (r : Int)] := by
  unfold cntQ
  rw [if_neg h0, if_pos (by omega), Int.toNat_natCast, List.flatten_replicate_singleton]
  congr 2
  show ((A - r : Nat) : Int) = _
  omega
theorem ifif (c : Str) (v u : Option Value) (M : Str → Option Value) : (fun y => if y = c then v else if y = c then u else M y) = fun y => if y = c then v else M y := by
  funext y; by_cases h : y = c
  · rw [if_pos h, if_pos h]
  · rw [if_neg h, if_neg h, if_neg h]
theorem News.six {g h : Heap} {L : Addr} {p1 p2 p3 p4 p5 p6 : Addr × Obj} {t1 t2 t3 t4 : Addr × Obj} (N : News g L h [t1, t2, t3, p1, p2, p3, p4, t4, p5, p6]) : News g L h [p1, p2, p3, p4, p5, p6] := fun p hp => N p (by
  simp only [List.mem_cons, List.not_mem_nil, or_false] at hp ⊢
  rcases hp with h | h | h | h | h | h <;> simp [h])
theorem ahead_eq {q A r : Nat} (h : r < A) : (List.replicate (r : Int).toNat [(q : Int) + 1]).flatten ++ (List.replicate ((A : Int) - (r : Int)).toNat [(q : Int)]).flatten = (aheadN q A r).map Int.ofNat := by
  rw [show (A : Int) - (r : Int) = ((A - r : Nat) : Int) by omega, flat_one, flat_one]
  simp [aheadN]
theorem ahead_eq0 {q A r : Nat} (h : r < A) : (List.replicate (r : Int).toNat [(q : Int) + 1]).flatten ++ (List.replicate ((A : Int) - (r : Int)).toNat [(q : Int)]).flatten ++ [0] = (aheadN q A r ++ [0]).map Int.ofNat := by
  rw [ahead_eq h, List.map_append]; rfl
theorem neqSelf {p : Prop} {b : Bool} (h : (b != b) = true) : p := by cases b <;> cases h
theorem nameAll {P : Prop} {h₀ h : Heap} {L : Addr} {r : List (Addr × Obj)} (_ : News h₀ L h r) (k : ∀ r', r = r' → P) : P := k r rfl
theorem joinL {prog : Program} {w : World} {A : Around} {t : Sem Flow} {Q : Flow → Shared → Prop} {E : Value → Shared → Prop} {s : Shared} {g : Heap} {L : Addr} {nm : Str} {v : Value} {M : Str → Option Value} (R : List (Addr × Obj)) (c : List Int)
    (_ : Fr g L s.heap (fun y => if y = nm then some v else M y))
    (ways : ∀ Q' : Flow → Shared → Prop, (∀ D ws h tk, Fr g L h (fun y => if y = nm then some (.ref D) else M y) → News g L h ((D, W.listOf ws.toArray 0) :: R) → IntsAre ws c → Q' .next { s with heap := h, toks := tk }) → wpAny (model prog w) A t Q' E s)
    (rest : ∀ D ws h tk, Fr g L h (fun y => if y = nm then some (.ref D) else M y) → News g L h ((D, W.listOf ws.toArray 0) :: R) → IntsAre ws c → Q .next { s with heap := h, toks := tk }) : wpAny (model prog w) A t Q E s := ways Q rest
theorem sum_cast : ∀ ks : List Nat, (List.map Int.ofNat ks).sum = ((ks.sum : Nat) : Int)
  | [] => rfl
  | k :: ks => by rw [List.map_cons, List.sum_cons, List.sum_cons, sum_cast ks]; simp
noncomputable def deal_T1_k : Σ' (P1 : World → Addr → Obj → (Array Value) → Tok → Addr → Obj → (Array Value) → Tok → Addr → (Array Value) → (List Nat) → (ExcName → Option Value) → (Str → Option Value) → (Str → Option Value) → Nat → Nat → (Option (List Code)) → Str → Scope → Addr → Value → (List (Str × Addr)) → (List Env) → Around → Heap → Heap → Addr → (Str → Option Value) → Shared → (Value → Shared → Prop) → (Value → Shared → Prop) → Heap → Addr → Heap → Prop), (∀ w c1 oc1 vs1 tq1 c2 oc2 vs2 tq2 D vs ks mean mg mb dp un gd cn cs a ccd cl outer A₀ base h₀ L m s Q E g' L' h', P1 w c1 oc1 vs1 tq1 c2 oc2 vs2 tq2 D vs ks mean mg mb dp un gd cn cs a ccd cl outer A₀ base h₀ L m s Q E g' L' h') → ∀ (w : World) (c1 : Addr) (oc1 : Obj) (vs1 : Array Value) (tq1 : Tok) (c2 : Addr) (oc2 : Obj) (vs2 : Array Value) (tq2 : Tok) (D : Addr) (vs : Array Value) (ks : List Nat), CtrT w 44 440 188 [(65, tab65 c1), (72, tab72 c2)] [.ref D] (fun h => TFa h c1 oc1 vs1 tq1 c2 oc2 vs2 tq2 ∧ h.IsList D vs ∧ D ≠ 65 ∧ D ≠ 72 ∧ IntsAre vs.toList (ks.map Int.ofNat) ∧ Two ks)
      (fun _ s Q => ∀ (hz : Heap) (tz : Nat), Keep s.heap hz → Q (.bool true) { s with heap := hz, toks := tz }) := ⟨_, by
  intro hP_1 w c1 oc1 vs1 tq1 c2 oc2 vs2 tq2 D vs ks
  dsimp only [CtrT, P0, LS]
  k_fill
  intro mean mg mb dp un gd cn cs a ccd cl outer A₀ base h₀ L m s Q E B F X N T hk C1 C2 hpre hdp hun hret
  obtain ⟨hTF, hL0, hd1, hd2, hI, hT⟩ := hpre
  have b1 := (N _ (.head _)).1
  have b2 := (N _ (.tail _ (.head _))).1
  have hdl : D ∉ ([65, 72] : List Addr) := notIn2 hd1 hd2
  have hL1 : (hideAll s.heap [65, 72]).IsList D vs := by
    obtain ⟨o, ho, r⟩ := hL0
    exact ⟨o, hideAll_get _ ho hdl, r⟩
  refine wpAny_call ?_
  k_dflt (refine' enterT ?k1 ?k2 ?k3 ?k4 ?k5 ?kA ?kF ?kK ?k6 ?k7 ?k8 ?k9 ?kB ?kC1 ?kC2 ?_ ?c2 ?c3 ?c4 ?c5; walk_at "#c0"; k_whole)
  have hg0 : hideAll s.heap (List.map (·.1) [(65, tab65 c1), (72, tab72 c2)]) = hideAll s.heap [65, 72] := rfl
  rw [hg0]
  generalize hg : hideAll s.heap [65, 72] = g' at *
  clear C1 C2 N F B X T hg0
  intro L' h' F' N' B' X' T' C1 C2 l1
  (try k_lt l1)
  (try dsimp only)
  (try k_lift B')
  (try k_fold)
  have hvl : vs.size = ks.length := by have := hI.length; simpa using this
  have hsz : vs.size ≤ sizeLine := by rw [sizeLine_eq]; have := hT.l2; omega
  have hsum : (List.map Int.ofNat ks).sum = ((ks.sum : Nat) : Int) := sum_cast ks
  have hS := hT.s
  have hA1 := hT.l1
  have hA2 := hT.l2
  have hvI : (vs.size : Int) = ((ks.length : Nat) : Int) := by omega
  revert hk hdp hun hret hTF hL0 hd1 hd2 hI hT b1 b2 hdl hg hL1 F' N' B' X' T' C1 C2 l1 hvl hsz hsum hS hA1 hA2 hvI
  exact hP_1 w c1 oc1 vs1 tq1 c2 oc2 vs2 tq2 D vs ks mean mg mb dp un gd cn cs a ccd cl outer A₀ base h₀ L m s Q E g' L' h'⟩
noncomputable def deal_T1_R (z : Sk × (List Nat)) : Prop := deal_T1_k.1 (z.1.w 0) (z.1.a 0) (z.1.o 0) (z.1.av 0) (z.1.t 0) (z.1.a 1) (z.1.o 1) (z.1.av 1) (z.1.t 1) (z.1.a 2) (z.1.av 2) z.2 (z.1.em 0) (z.1.m 0) (z.1.m 1) (z.1.n 0) (z.1.n 1) (z.1.oc 0) (z.1.x 0) (z.1.sc 0) (z.1.a 3) (z.1.v 0) (z.1.sa 0) (z.1.le 0) (z.1.ar 0) (z.1.h 0) (z.1.h 1) (z.1.a 4) (z.1.m 2) (z.1.s 0) (z.1.q 0) (z.1.q 1) (z.1.h 2) (z.1.a 5) (z.1.h 3)
noncomputable def deal_T1_z : Sk × (List Nat) := skd (dS, default) deal_T1_R
namespace deal_T1_c
def w := deal_T1_z.1.w 0
def c1 := deal_T1_z.1.a 0
def oc1 := deal_T1_z.1.o 0
def vs1 := deal_T1_z.1.av 0
def tq1 := deal_T1_z.1.t 0
def c2 := deal_T1_z.1.a 1
def oc2 := deal_T1_z.1.o 1
def vs2 := deal_T1_z.1.av 1
def tq2 := deal_T1_z.1.t 1
def ks := deal_T1_z.2
def m := deal_T1_z.1.m 2
def g' := deal_T1_z.1.h 2
def L' := deal_T1_z.1.a 5
noncomputable def r1_k : Σ' (P1 : Heap → Nat → Tok → Addr → Heap → Heap → Heap → Heap → Nat → Addr → Tok → Tok → Heap → Nat → Prop), (∀ hzz1y1 tkzz1y2 tzz1y3 Dzz1y4 hzz1y5 hzz1y7 hzz1y8 hzz1y9 tk d ta tb hz tz, P1 hzz1y1 tkzz1y2 tzz1y3 Dzz1y4 hzz1y5 hzz1y7 hzz1y8 hzz1y9 tk d ta tb hz tz) → deal_T1_k.1 w c1 oc1 vs1 tq1 c2 oc2 vs2 tq2 (deal_T1_z.1.a 2) (deal_T1_z.1.av 2) ks (deal_T1_z.1.em 0) (deal_T1_z.1.m 0) (deal_T1_z.1.m 1) (deal_T1_z.1.n 0) (deal_T1_z.1.n 1) (deal_T1_z.1.oc 0) (deal_T1_z.1.x 0) (deal_T1_z.1.sc 0) (deal_T1_z.1.a 3) (deal_T1_z.1.v 0) (deal_T1_z.1.sa 0) (deal_T1_z.1.le 0) (deal_T1_z.1.ar 0) (deal_T1_z.1.h 0) (deal_T1_z.1.h 1) (deal_T1_z.1.a 4) m (deal_T1_z.1.s 0) (deal_T1_z.1.q 0) (deal_T1_z.1.q 1) g' L' (deal_T1_z.1.h 3) := ⟨_, by
  intro hP_1 
  intro hk hdp hun hret hTF hL0 hd1 hd2 hI hT b1 b2 hdl hg hL1 F' N' B' X' T' C1 C2 l1 hvl hsz hsum hS hA1 hA2 hvI
  w_on
  k_steps
  (with_reducible rename Fr _ _ _ _ => zF)
  (with_reducible rename News _ _ _ _ => zN)
  rw [hsum] at zF ⊢
  have zn : News g' L' _ [(65, tab65 c1), (72, tab72 c2)] := cb_drop zN (by kcj_all)
  have kp := keep_two hg zF.keep b1 b2 (zn _ (.head _)).1 (zn _ (.tail _ (.head _))).1
  k_here
  k_dflt (refine' im_T1 w c1 oc1 vs1 tq1 c2 oc2 vs2 tq2 _ _ _ _ _ _ _ _ _ _ _ _ _ _ _ _ _ _ _ _ _ _ _ _ ?k1 ?k2 ?k3 ?k4 ?k5 ?k6 ?kC1 ?kC2 ?k8 ?k9 ?k10 ?_; (case k1 => k_asm); (case k2 => k_asm); (case k3 => k_asm); (case k4 => exact zn); (case k5 => k_asm); (case k6 => exact rfl); (case kC1 => assumption); (case kC2 => assumption); (case k8 => exact ⟨hTF.keep kp, by omega, by omega, by omega, by omega⟩); (case k9 => ktr_room); (case k10 => ktr_units); k_whole)
  intro q rr d ta tb hz tz hqr kb dn dg
  obtain ⟨rfl, rfl⟩ := hqr
  have F8 := frKeep zF kb
  have N8 := newsKeep1 zF zn kb dn dg
  clear zF zN zn kp kb dn dg
  have hq0 : ((ks.sum : Nat) : Int) / ((ks.length : Nat) : Int) = ((ks.sum / ks.length : Nat) : Int) := (Int.natCast_ediv ..).symm
  have hr0 : ((ks.sum : Nat) : Int) % ((ks.length : Nat) : Int) = ((ks.sum % ks.length : Nat) : Int) := (Int.natCast_emod ..).symm
  rw [hq0, hr0] at N8
  have hr1 : ks.sum % ks.length < ks.length := Nat.mod_lt _ (by omega)
  have hqs : ((ks.sum / ks.length : Nat) : Int) * ((ks.length : Nat) : Int) + ((ks.sum % ks.length : Nat) : Int) = ((ks.sum : Nat) : Int) := by
    have := Nat.div_add_mod ks.sum ks.length
    rw [Nat.mul_comm] at this
    exact_mod_cast this
  have hqle : ks.sum / ks.length ≤ ks.sum := Nat.div_le_self ..
  have hcd := cnt_deal hT.two rfl rfl rfl hT.l1
  generalize hqq : ks.sum / ks.length = q at *
  generalize hrr : ks.sum % ks.length = r at *
  clear hq0 hr0
  rename_i hzz1y1 tkzz1y2 tzz1y3 Dzz1y4 hzz1y5 lzz1y6 hzz1y7 hzz1y8 hzz1y9
  revert hk hdp hun hret hTF hL0 hd1 hd2 hI hT b1 b2 hdl hg hL1 B' X' T' C1 C2 l1 hvl hsz hsum hS hA1 hA2 hvI lzz1y6 F8 q hqq hqle r hrr hr1 N8 hqs hcd
  exact hP_1 hzz1y1 tkzz1y2 tzz1y3 Dzz1y4 hzz1y5 hzz1y7 hzz1y8 hzz1y9 tk d ta tb hz tz⟩
noncomputable def r1_R (z : Sk) : Prop := r1_k.1 (z.h 0) (z.n 0) (z.t 0) (z.a 0) (z.h 1) (z.h 2) (z.h 3) (z.h 4) (z.n 1) (z.a 1) (z.t 1) (z.t 2) (z.h 5) (z.n 2)
namespace r1_c
def tk := (skv r1_R).n 1
noncomputable def r2_k : Σ' (P1 : Heap → Heap → Heap → Nat → Nat → Addr → Addr → Addr → Addr → (List Value) → Str → Tok → Tok → Tok → Tok → Tok → Tok → Tok → Tok → Tok → Heap → Nat → Prop), (∀ hzz2y1 hzz2y2 hzz2y3 tkzz2y4 tk x dx nn nc xs T k1 k2 k3 k4 k5 t0 tn tt tb1 hz1 tz1, P1 hzz2y1 hzz2y2 hzz2y3 tkzz2y4 tk x dx nn nc xs T k1 k2 k3 k4 k5 t0 tn tt tb1 hz1 tz1) → r1_k.1 ((skv r1_R).h 0) ((skv r1_R).n 0) ((skv r1_R).t 0) ((skv r1_R).a 0) ((skv r1_R).h 1) ((skv r1_R).h 2) ((skv r1_R).h 3) ((skv r1_R).h 4) tk ((skv r1_R).a 1) ((skv r1_R).t 1) ((skv r1_R).t 2) ((skv r1_R).h 5) ((skv r1_R).n 2) := ⟨_, by
  intro hP_1 
  intro hk hdp hun hret hTF hL0 hd1 hd2 hI hT b1 b2 hdl hg hL1 B' X' T' C1 C2 l1 hvl hsz hsum hS hA1 hA2 hvI lzz1y6 F8 q hqq hqle r hrr hr1 N8 hqs hcd
  k_steps
  · exact absurd hqs (by assumption)
  · (with_reducible rename Fr _ _ _ _ => zF)
    (with_reducible rename News _ _ _ _ => zN)
    k_here
    k_dflt (refine' lead_ctr _ _ _ ks r _ _ _ _ _ _ _ _ _ _ _ _ _ _ _ _ _ _ _ _ _ _ _ ?k1 ?k2 ?k3 ?k4 ?k5 ?k6 ?k7 ?k8 ?k9 ?k10 ?k11 ?kz ?k12 ?k13 ?_; (case kz => exact rfl); (case k1 => k_asm); (case k2 => k_asm); (case k3 => k_asm); (case k4 => k_asm); (case k5 => k_asm); (case k6 => exact rfl); (case k7 => is_list); (case k8 => assumption); (case k9 => omega); (case k10 => omega); (case k11 => omega); (case k12 => ktr_room); (case k13 => ktr_units); k_whole)
    intro x dx nn nc xs T k1 k2 k3 k4 k5 t0 tn tt tb1 hz1 tz1 F9 N9 hX hlt
    clear zF zN
    rw [hcd] at hX N9
    have hcl := cntQ_len (q := q) hr1
    have hcm := cntQ_mem (q := q) hr1 hA2
    have hsim : decide (((cntQ q (ks.length - r) r).length : Int) ≤ 1) = ((q : Int) + (r : Int) == 0) := simE hcl
    rw [hsim] at N9
    have hcol := fun size => col_deal (q := q) size hr1
    simp only [Int.natCast_add] at N9
    refine nameAll N9 (fun R hR => ?_)
    rename_i hzz2y1 hzz2y2 hzz2y3 tkzz2y4 azz2y5
    revert hk hdp hun hret hTF hL0 hd1 hd2 hI hT b1 b2 hdl hg hL1 B' X' T' C1 C2 l1 hvl hsz hsum hS hA1 hA2 hvI lzz1y6 q hqq hqle r hrr hr1 hqs hcd azz2y5 F9 N9 hX hlt hcl hcm hsim hcol R hR
    exact hP_1 hzz2y1 hzz2y2 hzz2y3 tkzz2y4 tk x dx nn nc xs T k1 k2 k3 k4 k5 t0 tn tt tb1 hz1 tz1⟩
noncomputable def r2_R (z : Sk) : Prop := r2_k.1 (z.h 0) (z.h 1) (z.h 2) (z.n 0) (z.n 1) (z.a 0) (z.a 1) (z.a 2) (z.a 3) (z.lv 0) (z.x 0) (z.t 0) (z.t 1) (z.t 2) (z.t 3) (z.t 4) (z.t 5) (z.t 6) (z.t 7) (z.t 8) (z.h 3) (z.n 2)
namespace r2_c
def tk := (skv r2_R).n 1
def k1 := (skv r2_R).t 0
def k2 := (skv r2_R).t 1
def k3 := (skv r2_R).t 2
def k4 := (skv r2_R).t 3
def k5 := (skv r2_R).t 4
noncomputable def r3_k : Σ' (P1 : Heap → Nat → Addr → Heap → Addr → Heap → Nat → Addr → Heap → Addr → (List Value) → Heap → Heap → Nat → Addr → (List Value) → Heap → Nat → Prop), (∀ hzz3y1 tkzz3y2 lzz3y3 hzz3y4 Dzz3y6 hzz3y7 nzz3y9 lzz3y15 hzz3y16 Dzz3y18 wszz3y19 hzz3y20 hzz3y23 tk Dc wsc hc tkc, P1 hzz3y1 tkzz3y2 lzz3y3 hzz3y4 Dzz3y6 hzz3y7 nzz3y9 lzz3y15 hzz3y16 Dzz3y18 wszz3y19 hzz3y20 hzz3y23 tk Dc wsc hc tkc) → r2_k.1 ((skv r2_R).h 0) ((skv r2_R).h 1) ((skv r2_R).h 2) ((skv r2_R).n 0) tk ((skv r2_R).a 0) ((skv r2_R).a 1) ((skv r2_R).a 2) ((skv r2_R).a 3) ((skv r2_R).lv 0) ((skv r2_R).x 0) k1 k2 k3 k4 k5 ((skv r2_R).t 5) ((skv r2_R).t 6) ((skv r2_R).t 7) ((skv r2_R).t 8) ((skv r2_R).h 3) ((skv r2_R).n 2) := ⟨_, by
  intro hP_1 
  intro hk hdp hun hret hTF hL0 hd1 hd2 hI hT b1 b2 hdl hg hL1 B' X' T' C1 C2 l1 hvl hsz hsum hS hA1 hA2 hvI lzz1y6 q hqq hqle r hrr hr1 hqs hcd azz2y5 F9 N9 hX hlt hcl hcm hsim hcol R hR
  k_steps
  unfold Stop
  (with_reducible rename Fr _ _ _ _ => zF)
  (with_reducible rename News _ _ _ _ => zN)
  refine joinL R (cntQ q (ks.length - r) r) zF ?ways ?rest
  case ways =>
    intro Q1 hr
    subst hR
    have hpass : Passed := trivial
    by_cases h0 : 0 < r
    · rw [cntQ_pos hr1 h0] at hr
      k_steps
      (with_reducible rename Fr _ _ _ _ => zF)
      (with_reducible rename News _ _ _ _ => zN)
      rw [ifif] at zF
      exact hr _ _ _ _ zF (cb_drop zN (by kcj_all)) (by assumption)
    · rw [cntQ_nil hr1 h0] at hr
      k_steps
      (with_reducible rename Fr _ _ _ _ => zF)
      (with_reducible rename News _ _ _ _ => zN)
      exact hr _ _ _ _ zF (cb_drop zN (by kcj_all)) (by assumption)
  case rest =>
    clear zF zN
    intro Dc wsc hc tkc Fc Nc hIc
    subst hR
    have hwl := hIc.length
    have hcl2 : q + (if 0 < r then 2 else 1) ≤ 14 := cl2 hqle hS
    have hcl3 : (cntQ q (ks.length - r) r).length ≤ 14 := hcl ▸ hcl2
    rename_i hzz3y1 tkzz3y2 lzz3y3 hzz3y4 lzz3y5 Dzz3y6 hzz3y7 izz3y8 nzz3y9 szz3y10 ezz3y11 ezz3y12 ezz3y13 lzz3y14 lzz3y15 hzz3y16 lzz3y17 Dzz3y18 wszz3y19 hzz3y20 hIzz3y21 lzz3y22 hzz3y23
    revert hk hdp hun hret hTF hL0 hd1 hd2 hI hT b1 b2 hdl hg hL1 B' X' T' C1 C2 l1 hvl hsz hsum hS hA1 hA2 hvI lzz1y6 q hqq hqle r hrr hr1 hqs hcd azz2y5 hX hlt hcl hcm hsim hcol lzz3y5 izz3y8 szz3y10 ezz3y11 ezz3y12 ezz3y13 lzz3y14 lzz3y17 hIzz3y21 lzz3y22 Fc hIc Nc hwl hcl2 hcl3
    exact hP_1 hzz3y1 tkzz3y2 lzz3y3 hzz3y4 Dzz3y6 hzz3y7 nzz3y9 lzz3y15 hzz3y16 Dzz3y18 wszz3y19 hzz3y20 hzz3y23 tk Dc wsc hc tkc⟩
noncomputable def r3_R (z : Sk) : Prop := r3_k.1 (z.h 0) (z.n 0) (z.a 0) (z.h 1) (z.a 1) (z.h 2) (z.n 1) (z.a 2) (z.h 3) (z.a 3) (z.lv 0) (z.h 4) (z.h 5) (z.n 2) (z.a 4) (z.lv 1) (z.h 6) (z.n 3)
namespace r3_c
def tk := (skv r3_R).n 2
noncomputable def r4_k : Σ' (P1 : Addr → Heap → Addr → Heap → Nat → Heap → Addr → Heap → Nat → Heap → Heap → Heap → Nat → Heap → Nat → Heap → Nat → Addr → Nat → Tok → Heap → Nat → Obj → (Option Value) → (Option Value) → Prop), Σ' (P2 : Addr → Heap → Addr → Heap → Nat → Heap → Addr → Heap → Nat → Heap → Heap → Heap → Nat → Heap → Nat → Heap → Nat → Addr → Heap → Nat → (Option Value) → (Option Value) → Prop), (∀ Dzz4y1 hzz4y2 Dzz4y4 hzz4y5 tkzz4y11 gzz4y13 Lzz4y14 hzz4y15 tkzz4y20 hzz4y21 hzz4y22 hzz4y23 tk hzz4y25 tkzz4y26 hzz4y32 tkzz4y33 I i u hh tkk it vc vc2, P1 Dzz4y1 hzz4y2 Dzz4y4 hzz4y5 tkzz4y11 gzz4y13 Lzz4y14 hzz4y15 tkzz4y20 hzz4y21 hzz4y22 hzz4y23 tk hzz4y25 tkzz4y26 hzz4y32 tkzz4y33 I i u hh tkk it vc vc2) → (∀ Dzz4y1 hzz4y2 Dzz4y4 hzz4y5 tkzz4y11 gzz4y13 Lzz4y14 hzz4y15 tkzz4y20 hzz4y21 hzz4y22 hzz4y23 tk hzz4y25 tkzz4y26 hzz4y32 tkzz4y33 I hz9 tz9 vc vc2, P2 Dzz4y1 hzz4y2 Dzz4y4 hzz4y5 tkzz4y11 gzz4y13 Lzz4y14 hzz4y15 tkzz4y20 hzz4y21 hzz4y22 hzz4y23 tk hzz4y25 tkzz4y26 hzz4y32 tkzz4y33 I hz9 tz9 vc vc2) → r3_k.1 ((skv r3_R).h 0) ((skv r3_R).n 0) ((skv r3_R).a 0) ((skv r3_R).h 1) ((skv r3_R).a 1) ((skv r3_R).h 2) ((skv r3_R).n 1) ((skv r3_R).a 2) ((skv r3_R).h 3) ((skv r3_R).a 3) ((skv r3_R).lv 0) ((skv r3_R).h 4) ((skv r3_R).h 5) tk ((skv r3_R).a 4) ((skv r3_R).lv 1) ((skv r3_R).h 6) ((skv r3_R).n 3) := ⟨_, _, by
  intro hP_1 hP_2 
  intro hk hdp hun hret hTF hL0 hd1 hd2 hI hT b1 b2 hdl hg hL1 B' X' T' C1 C2 l1 hvl hsz hsum hS hA1 hA2 hvI lzz1y6 q hqq hqle r hrr hr1 hqs hcd azz2y5 hX hlt hcl hcm hsim hcol lzz3y5 izz3y8 szz3y10 ezz3y11 ezz3y12 ezz3y13 lzz3y14 lzz3y17 hIzz3y21 lzz3y22 Fc hIc Nc hwl hcl2 hcl3
  k_steps
  all_goals (try (exact absurd rfl (by assumption)))
  all_goals (try (exact neqSelf (by assumption)))
  unfold Stop
  (with_reducible rename Fr _ _ _ _ => kF)
  (with_reducible rename News _ _ _ _ => kN)
  have zn := News.six kN
  refine nameFr kF (fun M0 hM0 kF => ?_)
  refine nameAll zn (fun Rt hRt => ?_)
  have zn2 := zn
  rw [hRt] at zn2
  refine loopRange (fun I (_ : Nat) (m : Str → Option Value) (ns : List (Addr × Obj)) => ns = Rt ∧ (∀ p ∈ Rt, p.1 ≠ I) ∧ ∀ z, z ≠ Str.ofString "size" → z ≠ Str.ofString "sizes" → m z = M0 z) rfl kF zn2 (by decide) (by decide) (by decide) (by decide) ?g1 ?g2 ?g3 ?g4
  case g1 =>
    intro I hI0
    exact ⟨rfl, fun p hp => Nat.ne_of_lt (hI0 p hp), fun _ _ _ => rfl⟩
  case g2 =>
    rintro I i m₁ ns ⟨rfl, h1, -⟩ p hp
    exact h1 p hp
  case g3 =>
    intro I i u m₁ news₁ hh tkk it hi hJ F N
    obtain ⟨hns, lI, hm⟩ := hJ
    rw [hns] at N
    clear hns news₁
    have em := map2 _ _ _ _ hm
    generalize m₁ (Str.ofString "size") = vc at em
    generalize m₁ (Str.ofString "sizes") = vc2 at em
    subst em
    clear hm
    generalize hJn : (fun (m : Str → Option Value) (ns : List (Addr × Obj)) => ns = Rt ∧ (∀ p ∈ Rt, p.1 ≠ I) ∧ ∀ z, z ≠ Str.ofString "size" → z ≠ Str.ofString "sizes" → m z = M0 z) = Jn
    generalize hM1 : M0 = M1 at hJn
    generalize hR1 : Rt = R1 at hJn
    subst hM0
    subst hRt
    clear kF zn zn2 kN
    have hcz : (r : Int) + (1 + (i : Int)) * (colI (1 + (i : Int)).toNat (cntQ q (ks.length - r) r) + ks.length) = (((ks.length : Int) - r) * ((q : Int).fdiv (1 + (i : Int)) + 1) + r * (((q : Int) + 1).fdiv (1 + (i : Int)) + 1)) * (1 + (i : Int)) + r := by
      have := hcol (1 + (i : Int)).toNat
      rwa [show (((1 + (i : Int)).toNat : Nat) : Int) = 1 + (i : Int) from toN1] at this
    clear hcol
    have hlim : 0 ≤ (r : Int) ∧ (r : Int) ≤ 100 ∧ 0 ≤ (ks.length : Int) ∧ (ks.length : Int) ≤ 100 := ⟨Int.natCast_nonneg _, bLe (nat0 (nr0 hr1 hA2)) (by decide), Int.natCast_nonneg _, bLe (nat0 hA2) (by decide)⟩
    rename_i Dzz4y1 hzz4y2 lzz4y3 Dzz4y4 hzz4y5 Fzz4y6 Nzz4y7 lzz4y8 azz4y9 azz4y10 tkzz4y11 azz4y12 gzz4y13 Lzz4y14 hzz4y15 FGzz4y16 Bzz4y17 Xzz4y18 Tzz4y19 tkzz4y20 hzz4y21 hzz4y22 hzz4y23 Fzz4y24 hzz4y25 tkzz4y26 azz4y27 azz4y28 kFzz4y29 Tczz4y30 kXzz4y31 hzz4y32 tkzz4y33 azz4y34
    revert hk hdp hun hret hTF hL0 hd1 hd2 hI hT b1 b2 hdl hg hL1 B' X' T' C1 C2 l1 hvl hsz hsum hS hA1 hA2 hvI lzz1y6 q hqq hqle r hrr hr1 hqs hcd azz2y5 hX hlt hcl hcm hsim lzz3y5 izz3y8 szz3y10 ezz3y11 ezz3y12 ezz3y13 lzz3y14 lzz3y17 hIzz3y21 lzz3y22 hIc hwl hcl2 hcl3 lzz4y3 Fzz4y6 Nzz4y7 lzz4y8 azz4y9 azz4y10 azz4y12 FGzz4y16 Bzz4y17 Xzz4y18 Tzz4y19 qk ek Fzz4y24 azz4y27 azz4y28 kFzz4y29 Tczz4y30 kXzz4y31 kF azz4y34 hi Jn M1 R1 hJn F hM1 N lI hR1 hcz hlim
    exact hP_1 Dzz4y1 hzz4y2 Dzz4y4 hzz4y5 tkzz4y11 gzz4y13 Lzz4y14 hzz4y15 tkzz4y20 hzz4y21 hzz4y22 hzz4y23 tk hzz4y25 tkzz4y26 hzz4y32 tkzz4y33 I i u hh tkk it vc vc2
  case g4 =>
    intro I m' news' hz9 tz9 hJ F N
    obtain ⟨hns, lI, hm⟩ := hJ
    rw [hns] at N
    clear hns lI news'
    have em := map2 _ _ _ _ hm
    generalize m' (Str.ofString "size") = vc at em
    generalize m' (Str.ofString "sizes") = vc2 at em
    subst em
    clear hm
    subst hM0
    subst hRt
    clear kF zn zn2 kN hcol
    have hal := ahead_len (q := q) hr1
    have has := ahead_sum (q := q) hr1
    have hsA : q * ks.length + r = ks.sum := by exact_mod_cast hqs
    have hE1 := ahead_eq (q := q) hr1
    have hE2 := ahead_eq0 (q := q) hr1
    have hal2 : (aheadN q ks.length r ++ [0]).length = ks.length + 1 := by rw [List.length_append, hal]; rfl
    have has2 : (aheadN q ks.length r ++ [0]).sum = q * ks.length + r := by rw [List.sum_append, has]; rfl
    have hca := cnt_ahead (q := q) hr1
    have hn1 : ¬ (cntQ q (ks.length - r) r = cntOf (aheadN q ks.length r ++ [0]) ∧ (r : Int) = (r : Int)) := fun h => cnt_more hr1 h.1.symm
    have hn2 : ¬ (cntQ q (ks.length - r) r = cntQ q (ks.length - r) r ∧ (r : Int) = ((r + 1 : Nat) : Int)) := fun h => neS h.2
    rename_i Dzz4y1 hzz4y2 lzz4y3 Dzz4y4 hzz4y5 Fzz4y6 Nzz4y7 lzz4y8 azz4y9 azz4y10 tkzz4y11 azz4y12 gzz4y13 Lzz4y14 hzz4y15 FGzz4y16 Bzz4y17 Xzz4y18 Tzz4y19 tkzz4y20 hzz4y21 hzz4y22 hzz4y23 Fzz4y24 hzz4y25 tkzz4y26 azz4y27 azz4y28 kFzz4y29 Tczz4y30 kXzz4y31 hzz4y32 tkzz4y33 azz4y34
    revert hk hdp hun hret hTF hL0 hd1 hd2 hI hT b1 b2 hdl hg hL1 B' X' T' C1 C2 l1 hvl hsz hsum hS hA1 hA2 hvI lzz1y6 q hqq hqle r hrr hr1 hqs hcd azz2y5 hX hlt hcl hcm hsim lzz3y5 izz3y8 szz3y10 ezz3y11 ezz3y12 ezz3y13 lzz3y14 lzz3y17 hIzz3y21 lzz3y22 hIc hwl hcl2 hcl3 lzz4y3 Fzz4y6 Nzz4y7 lzz4y8 azz4y9 azz4y10 azz4y12 FGzz4y16 Bzz4y17 Xzz4y18 Tzz4y19 qk ek Fzz4y24 azz4y27 azz4y28 kFzz4y29 Tczz4y30 kXzz4y31 kF azz4y34 F N hal has hsA hE1 hE2 hal2 has2 hca hn1 hn2
    exact hP_2 Dzz4y1 hzz4y2 Dzz4y4 hzz4y5 tkzz4y11 gzz4y13 Lzz4y14 hzz4y15 tkzz4y20 hzz4y21 hzz4y22 hzz4y23 tk hzz4y25 tkzz4y26 hzz4y32 tkzz4y33 I hz9 tz9 vc vc2⟩
noncomputable def r4_R1 (z : Sk) : Prop := r4_k.1 (z.a 0) (z.h 0) (z.a 1) (z.h 1) (z.n 0) (z.h 2) (z.a 2) (z.h 3) (z.n 1) (z.h 4) (z.h 5) (z.h 6) (z.n 2) (z.h 7) (z.n 3) (z.h 8) (z.n 4) (z.a 3) (z.n 5) (z.t 0) (z.h 9) (z.n 6) (z.o 0) (z.ov 0) (z.ov 1)
namespace r4_c1
theorem r5 : r4_k.1 ((skv r4_R1).a 0) ((skv r4_R1).h 0) ((skv r4_R1).a 1) ((skv r4_R1).h 1) ((skv r4_R1).n 0) ((skv r4_R1).h 2) ((skv r4_R1).a 2) ((skv r4_R1).h 3) ((skv r4_R1).n 1) ((skv r4_R1).h 4) ((skv r4_R1).h 5) ((skv r4_R1).h 6) ((skv r4_R1).n 2) ((skv r4_R1).h 7) ((skv r4_R1).n 3) ((skv r4_R1).h 8) ((skv r4_R1).n 4) ((skv r4_R1).a 3) ((skv r4_R1).n 5) ((skv r4_R1).t 0) ((skv r4_R1).h 9) ((skv r4_R1).n 6) ((skv r4_R1).o 0) ((skv r4_R1).ov 0) ((skv r4_R1).ov 1) := by
  intro hk hdp hun hret hTF hL0 hd1 hd2 hI hT b1 b2 hdl hg hL1 B' X' T' C1 C2 l1 hvl hsz hsum hS hA1 hA2 hvI lzz1y6 q hqq hqle r hrr hr1 hqs hcd azz2y5 hX hlt hcl hcm hsim lzz3y5 izz3y8 szz3y10 ezz3y11 ezz3y12 ezz3y13 lzz3y14 lzz3y17 hIzz3y21 lzz3y22 hIc hwl hcl2 hcl3 lzz4y3 Fzz4y6 Nzz4y7 lzz4y8 azz4y9 azz4y10 azz4y12 FGzz4y16 Bzz4y17 Xzz4y18 Tzz4y19 qk ek Fzz4y24 azz4y27 azz4y28 kFzz4y29 Tczz4y30 kXzz4y31 kF azz4y34 hi Jn M1 R1 hJn F hM1 N lI hR1 hcz hlim
  have xr := nat0 (nr0 hr1 hA2)
  have xA := xA0 hr1 hA2
  have xi := xi0 hi
  k_steps
  · exact absurd hcz (by assumption)
  · (with_reducible rename Fr _ _ _ _ => zF)
    (with_reducible rename News _ _ _ _ => zN)
    subst hJn hM1 hR1
    refine turnNext zF zN ⟨rfl, lI, fun z n1 n2 => ?_⟩ id
    simp only [if_neg n1, if_neg n2]
end r4_c1
noncomputable def r4_R2 (z : Sk) : Prop := r4_k.2.1 (z.a 0) (z.h 0) (z.a 1) (z.h 1) (z.n 0) (z.h 2) (z.a 2) (z.h 3) (z.n 1) (z.h 4) (z.h 5) (z.h 6) (z.n 2) (z.h 7) (z.n 3) (z.h 8) (z.n 4) (z.a 3) (z.h 9) (z.n 5) (z.ov 0) (z.ov 1)
namespace r4_c2
theorem r6 : r4_k.2.1 ((skv r4_R2).a 0) ((skv r4_R2).h 0) ((skv r4_R2).a 1) ((skv r4_R2).h 1) ((skv r4_R2).n 0) ((skv r4_R2).h 2) ((skv r4_R2).a 2) ((skv r4_R2).h 3) ((skv r4_R2).n 1) ((skv r4_R2).h 4) ((skv r4_R2).h 5) ((skv r4_R2).h 6) ((skv r4_R2).n 2) ((skv r4_R2).h 7) ((skv r4_R2).n 3) ((skv r4_R2).h 8) ((skv r4_R2).n 4) ((skv r4_R2).a 3) ((skv r4_R2).h 9) ((skv r4_R2).n 5) ((skv r4_R2).ov 0) ((skv r4_R2).ov 1) := by
  intro hk hdp hun hret hTF hL0 hd1 hd2 hI hT b1 b2 hdl hg hL1 B' X' T' C1 C2 l1 hvl hsz hsum hS hA1 hA2 hvI lzz1y6 q hqq hqle r hrr hr1 hqs hcd azz2y5 hX hlt hcl hcm hsim lzz3y5 izz3y8 szz3y10 ezz3y11 ezz3y12 ezz3y13 lzz3y14 lzz3y17 hIzz3y21 lzz3y22 hIc hwl hcl2 hcl3 lzz4y3 Fzz4y6 Nzz4y7 lzz4y8 azz4y9 azz4y10 azz4y12 FGzz4y16 Bzz4y17 Xzz4y18 Tzz4y19 qk ek Fzz4y24 azz4y27 azz4y28 kFzz4y29 Tczz4y30 kXzz4y31 kF azz4y34 F N hal has hsA hE1 hE2 hal2 has2 hca hn1 hn2
  have xr := nat0 (nr0 hr1 hA2)
  have xA := xA0 hr1 hA2
  have nr := nr0 hr1 hA2
  have aL := Nat.le_trans (Nat.le_of_eq hal) hA2
  have aS := Nat.le_trans (Nat.le_of_eq (has.trans hsA)) hS
  have aM := Nat.le_trans (Nat.le_of_eq hal2) (Nat.succ_le_succ hA2)
  have aT := Nat.le_trans (Nat.le_of_eq (has2.trans hsA)) hS
  clear hal has hal2 has2
  k_steps
  (with_reducible rename Fr _ _ _ _ => zF)
  (with_reducible rename News _ _ _ _ => zN)
  k_here
  k_dflt (refine' lead_ctr _ _ _ (aheadN q ks.length r) (r) _ _ _ _ _ _ _ _ _ _ _ _ _ _ _ _ _ _ _ _ _ _ _ ?k1 ?k2 ?k3 ?k4 ?k5 ?k6 ?k7 ?k8 ?k9 ?k10 ?k11 ?kz ?k12 ?k13 ?_; walk_at "#c2"; k_whole)
  clear zF zN
  intro x91 dx91 nn91 nc91 xs91 T91 k191 k291 k391 k491 k591 t091 tn91 tt91 tb91 hz91 tz91 F91 N91 hX91 hlt91
  rw [hca] at hX91 N91
  replace N91 := led1 N91
  k_steps
  (with_reducible rename Fr _ _ _ _ => zF)
  (with_reducible rename News _ _ _ _ => zN)
  k_here
  k_dflt (refine' lead_ctr _ _ _ (aheadN q ks.length r) (r) _ _ _ _ _ _ _ _ _ _ _ _ _ _ _ _ _ _ _ _ _ _ _ ?k1 ?k2 ?k3 ?k4 ?k5 ?k6 ?k7 ?k8 ?k9 ?k10 ?k11 ?kz ?k12 ?k13 ?_; walk_at "#c2"; k_whole)
  clear zF zN
  intro x92 dx92 nn92 nc92 xs92 T92 k192 k292 k392 k492 k592 t092 tn92 tt92 tb92 hz92 tz92 F92 N92 hX92 hlt92
  rw [hca] at hX92 N92
  replace N92 := led2 N92
  clear hX91 hlt91
  k_steps
  (with_reducible rename Fr _ _ _ _ => zF)
  (with_reducible rename News _ _ _ _ => zN)
  k_here
  k_dflt (refine' lead_ctr _ _ _ (aheadN q ks.length r ++ [0]) (r) _ _ _ _ _ _ _ _ _ _ _ _ _ _ _ _ _ _ _ _ _ _ _ ?k1 ?k2 ?k3 ?k4 ?k5 ?k6 ?k7 ?k8 ?k9 ?k10 ?k11 ?kz ?k12 ?k13 ?_; (case kz => exact rfl); (case k1 => k_asm); (case k2 => k_asm); (case k3 => k_asm); (case k4 => k_asm); (case k5 => k_asm); (case k6 => exact rfl); (case k7 => is_list); (case k8 => exact castI (by assumption) hE2); (case k9 => omega); (case k10 => omega); (case k11 => omega); (case k12 => ktr_room); (case k13 => ktr_units); k_whole)
  clear zF zN
  intro x93 dx93 nn93 nc93 xs93 T93 k193 k293 k393 k493 k593 t093 tn93 tt93 tb93 hz93 tz93 F93 N93 hX93 hlt93
  replace N93 := led2 N93
  clear hX92 hlt92
  k_steps
  (with_reducible rename Fr _ _ _ _ => zF)
  (with_reducible rename News _ _ _ _ => zN)
  k_here
  k_dflt (refine' lead_ctr _ _ _ (aheadN q ks.length r) (r + 1) _ _ _ _ _ _ _ _ _ _ _ _ _ _ _ _ _ _ _ _ _ _ _ ?k1 ?k2 ?k3 ?k4 ?k5 ?k6 ?k7 ?k8 ?k9 ?k10 ?k11 ?kz ?k12 ?k13 ?_; walk_at "#c2"; k_whole)
  clear zF zN
  intro x94 dx94 nn94 nc94 xs94 T94 k194 k294 k394 k494 k594 t094 tn94 tt94 tb94 hz94 tz94 F94 N94 hX94 hlt94
  rw [hca] at hX94 N94
  replace N94 := led2 N94
  clear hX93 hlt93
  k_steps
  (with_reducible rename Fr _ _ _ _ => zF)
  (with_reducible rename News _ _ _ _ => zN)
  have zz : News g' L' _ [(65, tab65 c1), (72, tab72 c2)] := cb_drop zN (by kcj_all)
  exact hret _ _ (keep_two hg zF.keep b1 b2 (zz _ (.head _)).1 (zz _ (.tail _ (.head _))).1)
end r4_c2
theorem r4  : r3_k.1 ((skv r3_R).h 0) ((skv r3_R).n 0) ((skv r3_R).a 0) ((skv r3_R).h 1) ((skv r3_R).a 1) ((skv r3_R).h 2) ((skv r3_R).n 1) ((skv r3_R).a 2) ((skv r3_R).h 3) ((skv r3_R).a 3) ((skv r3_R).lv 0) ((skv r3_R).h 4) ((skv r3_R).h 5) tk ((skv r3_R).a 4) ((skv r3_R).lv 1) ((skv r3_R).h 6) ((skv r3_R).n 3) :=
  r4_k.2.2 (fun Dzz4y1 hzz4y2 Dzz4y4 hzz4y5 tkzz4y11 gzz4y13 Lzz4y14 hzz4y15 tkzz4y20 hzz4y21 hzz4y22 hzz4y23 tk hzz4y25 tkzz4y26 hzz4y32 tkzz4y33 I i u hh tkk it vc vc2 => skva r4_R1 r4_c1.r5 (sk_a Dzz4y1 <| sk_h hzz4y2 <| sk_a Dzz4y4 <| sk_h hzz4y5 <| sk_n tkzz4y11 <| sk_h gzz4y13 <| sk_a Lzz4y14 <| sk_h hzz4y15 <| sk_n tkzz4y20 <| sk_h hzz4y21 <| sk_h hzz4y22 <| sk_h hzz4y23 <| sk_n tk <| sk_h hzz4y25 <| sk_n tkzz4y26 <| sk_h hzz4y32 <| sk_n tkzz4y33 <| sk_a I <| sk_n i <| sk_t u <| sk_h hh <| sk_n tkk <| sk_o it <| sk_ov vc <| sk_ov vc2 <| dS)) (fun Dzz4y1 hzz4y2 Dzz4y4 hzz4y5 tkzz4y11 gzz4y13 Lzz4y14 hzz4y15 tkzz4y20 hzz4y21 hzz4y22 hzz4y23 tk hzz4y25 tkzz4y26 hzz4y32 tkzz4y33 I hz9 tz9 vc vc2 => skva r4_R2 r4_c2.r6 (sk_a Dzz4y1 <| sk_h hzz4y2 <| sk_a Dzz4y4 <| sk_h hzz4y5 <| sk_n tkzz4y11 <| sk_h gzz4y13 <| sk_a Lzz4y14 <| sk_h hzz4y15 <| sk_n tkzz4y20 <| sk_h hzz4y21 <| sk_h hzz4y22 <| sk_h hzz4y23 <| sk_n tk <| sk_h hzz4y25 <| sk_n tkzz4y26 <| sk_h hzz4y32 <| sk_n tkzz4y33 <| sk_a I <| sk_h hz9 <| sk_n tz9 <| sk_ov vc <| sk_ov vc2 <| dS)) 
end r3_c
theorem r3  : r2_k.1 ((skv r2_R).h 0) ((skv r2_R).h 1) ((skv r2_R).h 2) ((skv r2_R).n 0) tk ((skv r2_R).a 0) ((skv r2_R).a 1) ((skv r2_R).a 2) ((skv r2_R).a 3) ((skv r2_R).lv 0) ((skv r2_R).x 0) k1 k2 k3 k4 k5 ((skv r2_R).t 5) ((skv r2_R).t 6) ((skv r2_R).t 7) ((skv r2_R).t 8) ((skv r2_R).h 3) ((skv r2_R).n 2) :=
  r3_k.2 (fun hzz3y1 tkzz3y2 lzz3y3 hzz3y4 Dzz3y6 hzz3y7 nzz3y9 lzz3y15 hzz3y16 Dzz3y18 wszz3y19 hzz3y20 hzz3y23 tk Dc wsc hc tkc => skva r3_R r3_c.r4 (sk_h hzz3y1 <| sk_n tkzz3y2 <| sk_a lzz3y3 <| sk_h hzz3y4 <| sk_a Dzz3y6 <| sk_h hzz3y7 <| sk_n nzz3y9 <| sk_a lzz3y15 <| sk_h hzz3y16 <| sk_a Dzz3y18 <| sk_lv wszz3y19 <| sk_h hzz3y20 <| sk_h hzz3y23 <| sk_n tk <| sk_a Dc <| sk_lv wsc <| sk_h hc <| sk_n tkc <| dS)) 
end r2_c
theorem r2  : r1_k.1 ((skv r1_R).h 0) ((skv r1_R).n 0) ((skv r1_R).t 0) ((skv r1_R).a 0) ((skv r1_R).h 1) ((skv r1_R).h 2) ((skv r1_R).h 3) ((skv r1_R).h 4) tk ((skv r1_R).a 1) ((skv r1_R).t 1) ((skv r1_R).t 2) ((skv r1_R).h 5) ((skv r1_R).n 2) :=
  r2_k.2 (fun hzz2y1 hzz2y2 hzz2y3 tkzz2y4 tk x dx nn nc xs T k1 k2 k3 k4 k5 t0 tn tt tb1 hz1 tz1 => skva r2_R r2_c.r3 (sk_h hzz2y1 <| sk_h hzz2y2 <| sk_h hzz2y3 <| sk_n tkzz2y4 <| sk_n tk <| sk_a x <| sk_a dx <| sk_a nn <| sk_a nc <| sk_lv xs <| sk_x T <| sk_t k1 <| sk_t k2 <| sk_t k3 <| sk_t k4 <| sk_t k5 <| sk_t t0 <| sk_t tn <| sk_t tt <| sk_t tb1 <| sk_h hz1 <| sk_n tz1 <| dS)) 
end r1_c
theorem r1  : deal_T1_k.1 w c1 oc1 vs1 tq1 c2 oc2 vs2 tq2 (deal_T1_z.1.a 2) (deal_T1_z.1.av 2) ks (deal_T1_z.1.em 0) (deal_T1_z.1.m 0) (deal_T1_z.1.m 1) (deal_T1_z.1.n 0) (deal_T1_z.1.n 1) (deal_T1_z.1.oc 0) (deal_T1_z.1.x 0) (deal_T1_z.1.sc 0) (deal_T1_z.1.a 3) (deal_T1_z.1.v 0) (deal_T1_z.1.sa 0) (deal_T1_z.1.le 0) (deal_T1_z.1.ar 0) (deal_T1_z.1.h 0) (deal_T1_z.1.h 1) (deal_T1_z.1.a 4) m (deal_T1_z.1.s 0) (deal_T1_z.1.q 0) (deal_T1_z.1.q 1) g' L' (deal_T1_z.1.h 3) :=
  r1_k.2 (fun hzz1y1 tkzz1y2 tzz1y3 Dzz1y4 hzz1y5 hzz1y7 hzz1y8 hzz1y9 tk d ta tb hz tz => skva r1_R r1_c.r2 (sk_h hzz1y1 <| sk_n tkzz1y2 <| sk_t tzz1y3 <| sk_a Dzz1y4 <| sk_h hzz1y5 <| sk_h hzz1y7 <| sk_h hzz1y8 <| sk_h hzz1y9 <| sk_n tk <| sk_a d <| sk_t ta <| sk_t tb <| sk_h hz <| sk_n tz <| dS)) 
end deal_T1_c
theorem deal_T1 (w : World) (c1 : Addr) (oc1 : Obj) (vs1 : Array Value) (tq1 : Tok) (c2 : Addr) (oc2 : Obj) (vs2 : Array Value) (tq2 : Tok) (D : Addr) (vs : Array Value) (ks : List Nat) : CtrT w 44 440 188 [(65, tab65 c1), (72, tab72 c2)] [.ref D] (fun h => TFa h c1 oc1 vs1 tq1 c2 oc2 vs2 tq2 ∧ h.IsList D vs ∧ D ≠ 65 ∧ D ≠ 72 ∧ IntsAre vs.toList (ks.map Int.ofNat) ∧ Two ks)
      (fun _ s Q => ∀ (hz : Heap) (tz : Nat), Keep s.heap hz → Q (.bool true) { s with heap := hz, toks := tz }) :=
  deal_T1_k.2 (fun w c1 oc1 vs1 tq1 c2 oc2 vs2 tq2 D vs ks mean mg mb dp un gd cn cs a ccd cl outer A₀ base h₀ L m s Q E g' L' h' => skall _ deal_T1_R deal_T1_c.r1 ((sk_w w <| sk_a c1 <| sk_o oc1 <| sk_av vs1 <| sk_t tq1 <| sk_a c2 <| sk_o oc2 <| sk_av vs2 <| sk_t tq2 <| sk_a D <| sk_av vs <| sk_em mean <| sk_m mg <| sk_m mb <| sk_n dp <| sk_n un <| sk_oc gd <| sk_x cn <| sk_sc cs <| sk_a a <| sk_v ccd <| sk_sa cl <| sk_le outer <| sk_ar A₀ <| sk_h base <| sk_h h₀ <| sk_a L <| sk_m m <| sk_s s <| sk_q Q <| sk_q E <| sk_h g' <| sk_a L' <| sk_h h' <| dS), ks)) w c1 oc1 vs1 tq1 c2 oc2 vs2 tq2 D vs ks
end Mine.Internal
end
noncomputable section -- KinE
open PySem PySem.W PySem.Calls PyProof.Rows PySem.SeqAt
namespace Mine.Internal
section
variable {prog : Program} {w : World} {A : Around} {E : Value → Shared → Prop} {s : Shared} {Q : Value → Shared → Prop} {h₀ : Heap} {L : Addr} {news nv : List (Addr × Obj)}
theorem inEmpty {f : Int → UInt64 × UInt64 × UInt64} {ps : List Int} {vs : List Value} {V e : Addr} {k : Nat} (N : News h₀ L s.heap news) (hV : (V, LCg.lst vs) ∈ news) (he : (e, W.listOf #[] k) ∈ news) (hc : ColsN f ps ps.length vs nv) (hnv : ∀ p ∈ nv, p ∈ news) (hu : A.units + 64 < cLine)
    (h : Q (.bool false) s) : wpAny (model prog w) A (compareOp .In (.ref e) (.ref V)) Q E s := by
  have gV := (N _ hV).1
  have ge := (N _ he).1
  refine in_listAt (l := V) (items := vs.toArray) (fun _ => false) ⟨_, gV, rfl, _, rfl⟩ ?_ ?_
  · intro y hy
    obtain ⟨j, hj, hyj⟩ := List.getElem_of_mem (show y ∈ vs by simpa using hy)
    have hjl : j < ps.length := by rw [← hc.1]; exact hj
    obtain ⟨d, t1, t2, t3, k', h1, h2⟩ := hc.2 j _ hjl (List.getElem?_eq_getElem hjl)
    rw [List.getElem?_eq_getElem hj, hyj] at h1
    cases h1
    have gd := (N _ (hnv _ h2)).1
    have hne : d ≠ e := by
      rintro rfl
      have := gd.symm.trans ge
      have h3 := congrArg (fun o : Option Obj => match o with | some ⟨_, _, .seq a _, _⟩ => a.size | _ => 0) this
      simp at h3
    refine EqAt.of_refs hne (RcAt.lists_lengths ⟨_, gd, rfl, _, rfl⟩ ⟨_, ge, rfl, _, rfl⟩ rfl ?_)
    have := units_in1 A
    omega
  · have : (vs.toArray.any fun _ => false) = false := by simp
    rw [this]; exact h
end
end Mine.Internal
end
noncomputable section -- Kn
open PySem PySem.W PySem.Calls PyProof.Rows
/- the ledger entry by entry -/
namespace Mine.Internal
section
variable {h₀ h h' : Heap} {L a c : Addr} {o o' : Obj} {x : Addr × Obj} {R R' : List (Addr × Obj)}
theorem nC (g : h.get? a = some o) (l : a ≠ L) (n : h₀.get? a = none) (r : News h₀ L h R) : News h₀ L h ((a, o) :: R) := fun p hp => by
  cases hp with
  | head => exact ⟨g, l, n⟩
  | tail _ q => exact r p q
theorem nT (N : News h₀ L h (x :: R)) : News h₀ L h R := fun p hp => N p (.tail _ hp)
theorem nG (N : News h₀ L h ((a, o) :: R)) : h.get? a = some o := (N _ (.head _)).1
theorem nK (N : News h₀ L h ((a, o) :: R')) (g : h'.get? a = some o') (r : News h₀ L h' R) : News h₀ L h' ((a, o') :: R) := nC g (N _ (.head _)).2.1 (N _ (.head _)).2.2 r
theorem nS (N : News h₀ L h R) (hs : Heap.SameBut c h h') (ne : ∀ p ∈ R, p.1 ≠ c) : News h₀ L h' R := fun p hp => ⟨hs.extBut _ _ (ne p hp) (N p hp).1, (N p hp).2⟩
theorem nU (N : News h₀ L h R) (up : ∀ p o, h.get? p = some o → h'.get? p = some o) : News h₀ L h' R := fun p hp => ⟨up _ _ (N p hp).1, (N p hp).2⟩
theorem aC (e : x.1 ≠ c) (r : ∀ p ∈ R, p.1 ≠ c) : ∀ p ∈ x :: R, p.1 ≠ c := fun p hp => by
  cases hp with
  | head => exact e
  | tail _ q => exact r p q
end
end Mine.Internal
end
section
local macro_rules | `(tactic| omega) => `(tactic| lia)
noncomputable section -- Kzc
open PySem PySem.W PySem.Calls PyProof.Rows PyProof.Rows.LCg PyProof.Rows.LCp
namespace Mine.Internal
section
variable {prog : Program} {w : World} {A : Around} {E : Value → Shared → Prop} {s : Shared} {h₀ : Heap} {L : Addr} {m : Str → Option Value} {env : Env}
noncomputable def ZEnd (h₀ : Heap) (L : Addr) (m : Str → Option Value) (its : List (Addr × Obj)) (C : Addr) (oC : Obj) (D : Addr) (ys : List Value) (Inv : List Value → List (Addr × Obj) → Prop) (s : Shared) (y : Value) (s' : Shared) : Prop :=
  ∃ h' tk nw', s' = { s with heap := h', toks := tk } ∧ Fr h₀ L h' m ∧ News h₀ L h' (its ++ (C, oC) :: (D, lst ys) :: nw') ∧ (∀ p ∈ nw', p.1 ∉ its.map (·.1) ∧ p.1 ≠ C ∧ p.1 ≠ D) ∧ Inv (ys ++ [y]) nw'
theorem ZEnd.all {its : List (Addr × Obj)} {C : Addr} {oC : Obj} {D : Addr} {ys : List Value} {Inv : List Value → List (Addr × Obj) → Prop} {P : Value → Shared → Prop}
    (k : ∀ h' tk nw' y, Fr h₀ L h' m → News h₀ L h' (its ++ (C, oC) :: (D, lst ys) :: nw') → (∀ p ∈ nw', p.1 ∉ its.map (·.1) ∧ p.1 ≠ C ∧ p.1 ≠ D) → Inv (ys ++ [y]) nw' → P y { s with heap := h', toks := tk }) (y : Value) (s' : Shared) (h : ZEnd h₀ L m its C oC D ys Inv s y s') : P y s' := by
  obtain ⟨h', tk, nw', rfl, F, N, off, J⟩ := h; exact k h' tk nw' y F N off J
noncomputable def ZInv (h₀ : Heap) (L : Addr) (m : Str → Option Value) (s₂ : Shared) (C D : Addr) (fpi : List Addr) (n : Nat) (St : Nat → Heap → Prop) (Inv : Nat → List Value → List (Addr × Obj) → Prop) (k : Nat) (s' : Shared) : Prop :=
  ∀ P : Nat → Shared → Prop, (∀ h' tk i ys m' nw, i ≤ n → ys.length = i → St i h' → Fr h₀ L h' m → h'.Ns C m' → News h₀ L h' ((D, lst ys) :: nw) → (∀ p ∈ nw, p.1 ∉ fpi ∧ p.1 ≠ C ∧ p.1 ≠ D) → Inv i ys nw → P (n + 1 - i) { s₂ with heap := h', toks := tk }) → P k s'
theorem ZInv.all {C D : Addr} {fpi : List Addr} {n : Nat} {St : Nat → Heap → Prop} {Inv : Nat → List Value → List (Addr × Obj) → Prop} {P : Nat → Shared → Prop}
    (H : ∀ h' tk i ys m' nw, i ≤ n → ys.length = i → St i h' → Fr h₀ L h' m → h'.Ns C m' → News h₀ L h' ((D, lst ys) :: nw) → (∀ p ∈ nw, p.1 ∉ fpi ∧ p.1 ≠ C ∧ p.1 ≠ D) → Inv i ys nw → P (n + 1 - i) { s with heap := h', toks := tk }) (k : Nat) (s' : Shared) (h : ZInv h₀ L m s C D fpi n St Inv k s') : P k s' := h P H
theorem loop_Z {prog : Program} {w : World} {A : Around} {h₀ : Heap} {L : Addr} {m : Str → Option Value} {env : Env} {elt iter : Expr} {x x₂ : Str} {px px₂ tp : Pos} {tk0} {scope : Scope} {cl : List (Str × Addr)} {pos : Pos} {I C D : Addr} {fp wr fpi : List Addr} {n : Nat} {Pt : Nat → Array Value → Prop} {St : Nat → Heap → Prop} {Mid : Nat → Addr → Heap → Prop} {s₂ : Shared} {R : Result → Shared → Prop}
    (W : WalksT prog w A I fp wr n Pt St Mid) (hsz : n ≤ sizeLine) (hh : A.handled = none)
    (hP : ∀ i vals, Pt i vals → ∃ v₁ v₂, vals = #[v₁, v₂])
    (hlive : ∀ i h, St i h → ∃ its : List (Addr × Obj), its.map (·.1) = fpi ∧ ∀ p ∈ its, h.get? p.1 = some p.2)
    (Inv : Nat → List Value → List (Addr × Obj) → Prop)
    (hfp : ∀ b ∈ fp, b ∈ fpi ∨ ∃ o, ∀ i ys nw, Inv i ys nw → (b, o) ∈ nw) (hwr : ∀ b ∈ wr, b ∈ fpi)
    (hI0 : ∀ b ∈ fpi, h₀.get? b = none ∧ b ≠ L ∧ b ≠ C ∧ b ≠ D) (hCD : C ≠ D) (hCL : C ≠ L) (hDL : D ≠ L) (hC₀ : h₀.get? C = none) (hD₀ : h₀.get? D = none)
    (hkind : scope.kind = .function) (hx : scope.names.lookup x = some .local) (hx₂ : scope.names.lookup x₂ = some .local) (hxx : x ≠ x₂)
    (turn : ∀ (i : Nat) ys nw v₁ v₂ its oC m₂ h tk (E' : Value → Shared → Prop), i < n → Inv i ys nw → Pt i #[v₁, v₂] → its.map (·.1) = fpi → NsObj oC m₂ → m₂ x = some v₁ → m₂ x₂ = some v₂ → Fr h₀ L h m → News h₀ L h (its ++ (C, oC) :: (D, lst ys) :: nw) →
      (∀ p ∈ nw, p.1 ∉ fpi ∧ p.1 ≠ C ∧ p.1 ≠ D) →
      wpAny (model prog w) A (eval elt (compEnvC scope cl C env)) (ZEnd h₀ L m its C oC D ys (Inv (i + 1)) { s₂ with heap := h, toks := tk }) E' { s₂ with heap := h, toks := tk })
    (done : ∀ ys nw h tk m', Inv n ys nw → Fr h₀ L h m → News h₀ L h ((D, lst ys) :: nw) → h.Ns C m' → (∀ p ∈ nw, p.1 ≠ C ∧ p.1 ≠ D) → R (.ok .next) { s₂ with heap := h, toks := tk })
    {nw₀ : List (Addr × Obj)} {m₀ : Str → Option Value} (J0 : Inv 0 [] nw₀) (hst : St 0 s₂.heap) (F : Fr h₀ L s₂.heap m) (N : News h₀ L s₂.heap ((D, lst []) :: nw₀)) (hns : s₂.heap.Ns C m₀) (off : ∀ p ∈ nw₀, p.1 ∉ fpi ∧ p.1 ≠ C ∧ p.1 ≠ D) : codeAny (model prog w) A (.compLoop (.ListComp elt [⟨.Tuple [.Name x px, .Name x₂ px₂] tk0 tp, iter, [], 0⟩] scope pos) 0 (.ref I) (.ref D) (compEnvC scope cl C env)) R s₂ := by
  refine codeAny_compLoop_pair (ZInv h₀ L m s₂ C D fpi n St Inv) (ZInv.all fun h' tk i ys m' nw hi hyl hst' F' hn' N' off' J => ?_) (n + 1) (fun P k => k s₂.heap s₂.toks 0 [] m₀ nw₀ (Nat.zero_le _) rfl hst F hns N off J0)
  have hCf : C ∉ fpi := fun hm => (hI0 C hm).2.2.1 rfl
  have hDf : D ∉ fpi := fun hm => (hI0 D hm).2.2.2 rfl
  have frB : ∀ {ha hb : Heap}, Fr h₀ L ha m → (∀ b o, b ∉ wr → ha.get? b = some o → hb.get? b = some o) → Fr h₀ L hb m := fun F hk =>
    ⟨F.ns.at' fun o e => hk L o (fun hm => (hI0 L (hwr _ hm)).2.1 rfl) e, fun b o e => hk b o (fun hm => by have := (hI0 b (hwr _ hm)).1; rw [this] at e; cases e) (F.keep b o e), F.above⟩
  have nwB : ∀ {ha hb : Heap} {ns : List (Addr × Obj)}, News h₀ L ha ns → (∀ b o, b ∉ wr → ha.get? b = some o → hb.get? b = some o) → (∀ p ∈ ns, p.1 ∉ fpi) → News h₀ L hb ns := fun N hk ho p hp =>
    ⟨hk _ _ (fun hm => ho p hp (hwr _ hm)) (N p hp).1, (N p hp).2⟩
  have offD : ∀ p ∈ (D, lst ys) :: nw, p.1 ∉ fpi := List.forall_mem_cons.2 ⟨hDf, fun p hp => (off' p hp).1⟩
  by_cases hlt : i < n
  · refine W.item i _ _ _ hlt hst' fun T vals h₂ tk₂ hPv hT hTt hmid hk₂ => ?_
    refine (hP _ _ hPv).elim fun v₁ hv => hv.elim fun v₂ ev => ?_
    refine W.go _ _ _ i T _ _ _ hmid fun h₄ hst₄ hk₄ => ?_
    have hTw := W.apart _ _ _ hmid
    have ht : IsTup h₄ T #[v₁, v₂] := hTt.elim fun o ho => ⟨o, hk₄ _ _ hTw ho.1, ho.2.1, ho.2.2.elim fun k hd => ⟨k, ev ▸ hd⟩⟩
    have k24 : ∀ b o, b ∉ wr → h'.get? b = some o → h₄.get? b = some o := fun b o hb e => hk₄ b o hb (hk₂ b o hb e)
    have F₄ := frB F' k24
    have N₄ := nwB N' k24 offD
    have hn₄ := hn'.at' fun o e => k24 C o (fun hm => hCf (hwr _ hm)) e
    refine assign_Tuple_tuple hh ht rfl rfl fun h₅ he => ?_
    have he' : ∀ b o, h₄.get? b = some o → h₅.get? b = some o := fun b o e => he b o (Nat.ne_of_lt (Heap.lt_size e)) e
    refine assignInOrder_cons (wpAny_assign_Name (wpAny_storeName_local (lookup_relabel_local hx) (hn₄.at' fun o e => he' _ o e) (fun h₆ hn₆ hs₆ => ?_) (by simp [compEnvC, relabel, hkind])))
    refine assignInOrder_cons (wpAny_assign_Name (wpAny_storeName_local (lookup_relabel_local hx₂) hn₆ (fun h₇ hn₇ hs₇ => ?_) (by simp [compEnvC, relabel, hkind])))
    refine assignInOrder_nil ?_
    have k47 : ∀ b o, b ≠ C → h₄.get? b = some o → h₇.get? b = some o := fun b o hb e => hs₇.extBut b o hb (hs₆.extBut b o hb (he' b o e))
    have F₇ : Fr h₀ L h₇ m := ((F₄.keeps he').change hs₆ hCL hC₀).change hs₇ hCL hC₀
    have N₇ : News h₀ L h₇ ((D, lst ys) :: nw) := nK N₄ (k47 _ _ (Ne.symm hCD) (nG N₄)) fun p hp => ⟨k47 _ _ (off' p hp).2.1 (nT N₄ p hp).1, (nT N₄ p hp).2⟩
    have hfC : ∀ b ∈ fp, b ≠ C := fun b hb => (hfp b hb).elim (fun h => (hI0 b h).2.2.1) fun ho => ho.elim fun o h => (off' _ (h _ _ _ J)).2.1
    have hst₇ : St (i + 1) h₇ := W.frame _ _ _ hst₄ fun b hb o e => k47 b o (hfC b hb) e
    refine (hlive _ _ hst₇).elim fun its hi5 => (ns_obj hn₇).elim fun oC hoC' => ?_
    have hits := hi5.1
    have hitg := hi5.2
    have hoC := hoC'.2
    have Nall : News h₀ L h₇ (its ++ (C, oC) :: (D, lst ys) :: nw) := News.append (fun p hp => ⟨hitg p hp, (hI0 _ (hits ▸ List.mem_map_of_mem hp)).2.1, (hI0 _ (hits ▸ List.mem_map_of_mem hp)).1⟩) (nC hoC'.1 hCL hC₀ N₇)
    refine wpAny_mono (turn i ys nw v₁ v₂ its oC _ h₇ _ _ hlt J (ev ▸ hPv) hits hoC (by simp [hxx]) (by simp) F₇ Nall off') (ZEnd.all fun h₈ tk₈ nw₈ y F₈ N₈ off₈' J₈ => ?_) fun _ _ e => e
    have off₈ : ∀ p ∈ nw₈, p.1 ∉ fpi ∧ p.1 ≠ C ∧ p.1 ≠ D := hits ▸ off₈'
    have R₈ := News.right N₈
    have N₈' := nT (nT R₈)
    have hst₈ : St (i + 1) h₈ := W.frame _ _ _ hst₇ fun b hb o e => (hfp b hb).elim
      (fun hm => by
        obtain ⟨p, hp, rfl⟩ := List.mem_map.mp (hits ▸ hm : b ∈ its.map (·.1))
        exact ((hitg p hp).symm.trans e) ▸ (N₈ p (List.mem_append_left _ hp)).1)
      fun ho => ho.elim fun o1 h1 => (((N₇ _ (.tail _ (h1 _ _ _ J))).1.symm.trans e) ▸ (N₈' _ (h1 _ _ _ J₈)).1 : h₈.get? b = some o)
    refine append_at (hsz := by show ys.toArray.size ≤ sizeLine; rw [List.size_toArray, hyl]; exact Nat.le_trans hi hsz) (nG (nT R₈)) fun h₉ hs₉ hD₉ => ?_
    exact ⟨n + 1 - (i + 1), Nat.sub_lt_sub_left (Nat.lt_succ_of_lt hlt) (Nat.lt_succ_self i), fun P k => k h₉ tk₈ (i + 1) (ys ++ [y]) _ nw₈ hlt (by rw [List.length_append, List.length_singleton, hyl])
      (W.frame _ _ _ hst₈ fun b hb o e => hs₉.extBut b o ((hfp b hb).elim (fun h => (hI0 b h).2.2.2) fun ho => ho.elim fun o2 h2 => (off₈ _ (h2 _ _ _ J₈)).2.2) e)
      (F₈.change hs₉ hDL hD₀) ((hoC.ns (nG R₈)).sameBut hs₉ hCD) (nK (nT R₈) (hD₉.trans (congrArg some (lst_snoc ys y))) (nS N₈' hs₉ fun p hp => (off₈ p hp).2.2)) off₈ J₈⟩
  · have e : i = n := Nat.le_antisymm hi (Nat.not_lt.mp hlt)
    refine W.done _ _ _ (e ▸ hst') fun h₂ tk₂ hk₂ => ?_
    exact done ys nw h₂ tk₂ _ (e ▸ J) (frB F' hk₂) (nwB N' hk₂ offD) (hn'.at' fun o e => hk₂ _ o (fun hm => hCf (hwr _ hm)) e) fun p hp => (off' p hp).2
noncomputable def ZSrc (prog : Program) (w : World) (A : Around) (h₀ : Heap) (L : Addr) (m : Str → Option Value) (env : Env) (elt : Expr) (x x₂ : Str) (scope : Scope) (cl : List (Str × Addr)) (Q : Value → Shared → Prop) (xv : Value) (s₁ : Shared) : Prop :=
  ∀ P : Value → Prop, (∀ (b l1 l2 : Nat) (o1 o2 : Obj) (xs ys : Array Value) (nw₀ : List (Addr × Obj)) (Inv : Nat → List Value → List (Addr × Obj) → Prop), s₁.heap.objs.size = b + 5 → IsZip s₁.heap (b + 4) (b + 2) (b + 3) .none → IsPair s₁.heap (b + 2) (.ref b) (.ref (b + 1)) → IsPair s₁.heap (b + 3) .none .none → s₁.heap.IsListIter b l1 0 → s₁.heap.IsListIter (b + 1) l2 0 → s₁.heap.IsList l1 xs → s₁.heap.IsList l2 ys → min xs.size ys.size ≤ sizeLine → Fr h₀ L s₁.heap m → News h₀ L s₁.heap nw₀ → (∀ p ∈ nw₀, p.1 < b) → L < b → h₀.objs.size ≤ b → l1 < b → l2 < b → Inv 0 [] nw₀ → (∀ i ys' nw, Inv i ys' nw → (l1, o1) ∈ nw ∧ (l2, o2) ∈ nw) → (∀ C D (i : Nat) zs nw v₁ v₂ its oC m₂ h tk (E' : Value → Shared → Prop), i < min xs.size ys.size → Inv i zs nw → xs[i]? = some v₁ → ys[i]? = some v₂ → its.map (·.1) = [b + 4, b + 2, b + 3, b, b + 1] → NsObj oC m₂ → m₂ x = some v₁ → m₂ x₂ = some v₂ → Fr h₀ L h m → News h₀ L h (its ++ (C, oC) :: (D, lst zs) :: nw) → (∀ p ∈ nw, p.1 ∉ [b + 4, b + 2, b + 3, b, b + 1] ∧ p.1 ≠ C ∧ p.1 ≠ D) → wpAny (model prog w) A (eval elt (compEnvC scope cl C env)) (ZEnd h₀ L m its C oC D zs (Inv (i + 1)) { s₁ with heap := h, toks := tk }) E' { s₁ with heap := h, toks := tk }) → (∀ D zs nw h tk, Inv (min xs.size ys.size) zs nw → Fr h₀ L h m → News h₀ L h ((D, lst zs) :: nw) → (∀ p ∈ nw, p.1 ≠ D) → Q (.ref D) { s₁ with heap := h, toks := tk }) → P (.ref (b + 4))) → P xv
theorem zset {scope : Scope} {cl : List (Str × Addr)} {b : Nat} {C : Value → Env → Shared → Prop} (hcell : ∀ y ∈ scope.names, y.2 ≠ .cell) (hkind : scope.kind = .function) (hb : s.heap.objs.size = b + 5)
    (k : ∀ h₁ m₀, (∀ a o, s.heap.get? a = some o → h₁.get? a = some o) → h₁.get? (b + 5) = some (lst []) → h₁.Ns (b + 6) m₀ →
      C (.ref (b + 5)) (newEnv scope (b + 6) env.globals cl env.qual none .none (some env) builtinsNs) { s with heap := h₁, toks := s.toks + ([] : List (Str × Value)).length }) :
    wpAny (model prog w) A (newList []) (fun acc s₃ => wpAny (model prog w) A (newFunctionEnv scope env.globals cl [] env.qual none .none (some env)) (fun cenv s₄ => C acc cenv s₄) E s₃) E s := by
  refine wpAny_newObj_type (wpAny_newFunctionEnv hcell (fun _ h => nomatch h) (fun h₁ hns₁ hsb₁ => ?_) hkind)
  have hC : (s.heap.push { cls := .type "list", dict := none, data := .seq ([] : List Value).toArray }).objs.size = b + 6 := by rw [Heap.size_push, hb]
  have old : ∀ a o, s.heap.get? a = some o → h₁.get? a = some o := fun a o e => hsb₁.extBut a o (Nat.ne_of_lt (by rw [hC]; exact Nat.lt_succ_of_lt (hb ▸ Heap.lt_size e))) (Heap.get?_push_of_some _ (Heap.get?_push_of_some _ e))
  have hDg : h₁.get? s.heap.objs.size = some (lst []) := hsb₁.extBut _ _ (Nat.ne_of_lt (by rw [hC, hb]; exact Nat.lt_succ_self _)) (Heap.get?_push_of_some _ (Heap.get?_push_size _ rfl))
  have hns₂ := hns₁
  dsimp only at hns₂ ⊢
  rw [hC] at hns₂ ⊢
  rw [hb] at hDg ⊢
  exact k h₁ _ old hDg hns₂
theorem mem5 {b a : Nat} : a ∈ [b + 4, b + 2, b + 3, b, b + 1] → b ≤ a ∧ a ≤ b + 4 := by
  revert a
  have g : ∀ c : Nat, c ≤ 4 → b ≤ b + c ∧ b + c ≤ b + 4 := fun c hc => ⟨Nat.le_add_right _ _, Nat.add_le_add_left hc _⟩
  exact List.forall_mem_cons.2 ⟨g 4 (by decide), List.forall_mem_cons.2 ⟨g 2 (by decide), List.forall_mem_cons.2 ⟨g 3 (by decide), List.forall_mem_cons.2 ⟨g 0 (by decide), List.forall_mem_cons.2 ⟨g 1 (by decide), fun _ h => nomatch h⟩⟩⟩⟩⟩
theorem ListComp_Z {prog : Program} {w : World} {A : Around} {E : Value → Shared → Prop} {s : Shared} {h₀ : Heap} {L : Addr} {m : Str → Option Value} {env : Env} {elt iter : Expr} {x x₂ : Str} {px px₂ tp : Pos} {tk0} {scope : Scope} {cl : List (Str × Addr)} {pos : Pos} {Q : Value → Shared → Prop} (hh : A.handled = none)
    (hclos : closureFor scope env = pure cl) (hcell : ∀ y ∈ scope.names, y.2 ≠ .cell) (hkind : scope.kind = .function)
    (hnames : ∀ y ∈ scope.names, y.2 = .local → scope.names.lookup y.1 = some .local) (hx : scope.names.lookup x = some .local) (hx₂ : scope.names.lookup x₂ = some .local) (hxx : x ≠ x₂)
    (h : wpAny (model prog w) A (eval iter env) (ZSrc prog w A h₀ L m env elt x x₂ scope cl Q) E s)
    (hs : ∀ x, foldedSetIterable iter env x = pure x := by intro _; rfl) : wpAny (model prog w) A (eval (.ListComp elt [⟨.Tuple [.Name x px, .Name x₂ px₂] tk0 tp, iter, [], 0⟩] scope pos) env) Q E s := by
  rw [eval_ListComp]
  refine wpAny_comprehension_free (use := none) rfl hs hclos hkind hnames (wpAny_mono h (fun xv s₁ h₁ => ?_) fun _ _ e => e)
  refine h₁ (fun xv => wpAny (model prog w) A (pyIter xv) _ E s₁) fun b l1 l2 o1 o2 xs ys nw₀ Inv hb hz hTI hTO hi1 hi2 hl1 hl2 hsz F N hlt hLb hhb hl1b hl2b J0 hkeep turn fin => ?_
  refine wpAny_pyIter_zip hz (zset hcell hkind hb fun h₁ m₀ old hDg hns₁ => ?_)
  have Dz : ZipApart (b + 4) (b + 2) (b + 3) b (b + 1) l1 l2 := ktu_apart _ _ _ hl1b hl2b
  have W := WalksT.zip2 (prog := prog) (w := w) hh (b + 4) (b + 2) (b + 3) b (b + 1) l1 l2 Dz xs ys
  have none₀ : ∀ a : Nat, b ≤ a → h₀.get? a = none := fun a ha => by
    cases e : h₀.get? a with
    | none => rfl
    | some o => exact absurd (Nat.lt_of_lt_of_le (Heap.lt_size e) hhb) (Nat.not_lt.mpr ha)
  have hCL : b + 6 ≠ L := Nat.ne_of_gt (Nat.lt_of_lt_of_le hLb (Nat.le_add_right _ _))
  have hDL : b + 5 ≠ L := Nat.ne_of_gt (Nat.lt_of_lt_of_le hLb (Nat.le_add_right _ _))
  have loop : codeAny (model prog w) A (.compLoop (.ListComp elt [⟨.Tuple [.Name x px, .Name x₂ px₂] tk0 tp, iter, [], 0⟩] scope pos) 0 (.ref (b + 4)) (.ref (b + 5)) (compEnvC scope cl (b + 6) env))
        (compPost (model prog w) A E none Q (.ref (b + 5)) (b + 6)) { s₁ with heap := h₁, toks := s₁.toks + ([] : List (Str × Value)).length } := by
    refine loop_Z (C := b + 6) (D := b + 5) (fpi := [b + 4, b + 2, b + 3, b, b + 1]) (nw₀ := nw₀) W hsz hh (fun i vals hv => hv.elim fun v hu => hu.elim fun u e => ⟨v, u, e.2.2⟩) ?live Inv ?fp
      (List.Sublist.subset (.cons_cons _ (.cons _ (.cons_cons _ (.cons_cons _ (.cons_cons _ .slnil)))))) (fun a ha => ⟨none₀ a (mem5 ha).1, Nat.ne_of_gt (Nat.lt_of_lt_of_le hLb (mem5 ha).1), Nat.ne_of_lt (Nat.lt_succ_of_le (Nat.le_succ_of_le (mem5 ha).2)), Nat.ne_of_lt (Nat.lt_succ_of_le (mem5 ha).2)⟩)
      (Nat.ne_of_gt (Nat.lt_succ_self _)) hCL hDL (none₀ _ (Nat.le_add_right _ _)) (none₀ _ (Nat.le_add_right _ _)) hkind hx hx₂ hxx ?turn ?done J0
      ⟨old _ _ hz, old _ _ hTI, ⟨_, _, old _ _ hTO⟩, hi1.at fun o e => old _ o e, hi2.at fun o e => old _ o e, hl1.at fun o e => old _ o e, hl2.at fun o e => old _ o e⟩ (F.keeps old) (nC hDg hDL (none₀ _ (Nat.le_add_right _ _)) (nU N old)) hns₁
      (fun p hp => ⟨fun hm => absurd (hlt p hp) (Nat.not_lt.mpr (mem5 hm).1), Nat.ne_of_lt (Nat.lt_of_lt_of_le (hlt p hp) (Nat.le_add_right _ _)), Nat.ne_of_lt (Nat.lt_of_lt_of_le (hlt p hp) (Nat.le_add_right _ _))⟩)
    case live =>
      rintro i h ⟨hz, hTI, ⟨a, c, hTO⟩, ⟨q1, ho1, _⟩, ⟨q2, ho2, _⟩, _⟩
      exact ⟨[(b + 4, _), (b + 2, _), (b + 3, _), (b, q1), (b + 1, q2)], rfl, List.forall_mem_cons.2 ⟨hz, List.forall_mem_cons.2 ⟨hTI, List.forall_mem_cons.2 ⟨hTO, List.forall_mem_cons.2 ⟨ho1, List.forall_mem_cons.2 ⟨ho2, fun _ h => nomatch h⟩⟩⟩⟩⟩⟩
    case fp =>
      exact fun a ha => (List.mem_append.1 (show a ∈ [b + 4, b + 2, b + 3, b, b + 1] ++ [l1, l2] from ha)).imp id fun h => (List.mem_cons.1 h).elim (fun e => ⟨o1, fun i ys' nw J => (show a = l1 from e).symm ▸ (hkeep i ys' nw J).1⟩) fun h => ⟨o2, fun i ys' nw J => (show a = l2 from List.mem_singleton.1 h).symm ▸ (hkeep i ys' nw J).2⟩
    case turn =>
      exact fun i zs nw v₁ v₂ its oC m₂ h tk E' hi J hv hits hC hm1 hm2 F' N' off' => hv.elim fun v hu => hu.elim fun u e =>
        turn _ _ i zs nw v₁ v₂ its oC m₂ h tk E' hi J (e.1.trans (congrArg (fun a : Array Value => a[0]?) e.2.2).symm) (e.2.1.trans (congrArg (fun a : Array Value => a[1]?) e.2.2).symm) hits hC hm1 hm2 F' N' off'
    case done =>
      exact fun zs nw h tk m' J F' N' hn off' => ⟨m', hn, fun h'' hs'' => fin (b + 5) zs nw h'' tk J (F'.change hs'' hCL (none₀ _ (Nat.le_add_right _ _))) (nS N' hs'' (aC (Nat.ne_of_lt (Nat.lt_succ_self _)) fun p hp => (off' p hp).1)) fun p hp => (off' p hp).2⟩
  exact codeAny_compStart_list loop (wpAny_pyIter_zip (s := { s₁ with heap := h₁, toks := _ }) (old _ _ hz) loop)
end
end Mine.Internal
end
noncomputable section -- Kread2
open PySem PySem.W PySem.Calls PyProof.Rows
namespace Mine.Internal
structure StaT (c1 : Addr) (oc1 : Obj) (vs1 : Array Value) (tq1 : Tok) (c2 : Addr) (oc2 : Obj) (vs2 : Array Value) (tq2 : Tok) : Prop where
  n1 : c1 ≠ 65
  n2 : c1 ≠ 72
  n3 : c2 ≠ 65
  n4 : c2 ≠ 72
  d1 : oc1.data = .fields vs1
  v1 : vs1[1]? = some (.str i2dQ tq1)
  d2 : oc2.data = .fields vs2
  v2 : vs2[1]? = some (.str d2iQ tq2)
noncomputable abbrev tabsR (c1 : Addr) (oc1 : Obj) (c2 : Addr) (oc2 : Obj) (K0 : List (Addr × Obj)) : List (Addr × Obj) := (72, tab72 c2) :: (65, tab65 c1) :: (c1, oc1) :: (c2, oc2) :: K0
noncomputable def RInv (K0 : List (Addr × Obj)) (ps : List Int) (T : Int) (i : Nat) (zs : List Value) (nw : List (Addr × Obj)) : Prop :=
  (i = 0 ∧ zs = [] ∧ nw = (72, tabObj #[]) :: (65, tabObj #[]) :: K0) ∨
  ∃ c1 oc1 vs1 tq1 c2 oc2 vs2 tq2, StaT c1 oc1 vs1 tq1 c2 oc2 vs2 tq2 ∧ nw = tabsR c1 oc1 c2 oc2 K0 ∧ (∀ q ∈ K0, c1 ≠ q.1 ∧ c2 ≠ q.1) ∧ IntsAre zs ((ps.take i).map (· % T))
theorem StaT.fa {c1 : Addr} {oc1 : Obj} {vs1 : Array Value} {tq1 : Tok} {c2 : Addr} {oc2 : Obj} {vs2 : Array Value} {tq2 : Tok} {h₀ h : Heap} {L : Addr} {news : List (Addr × Obj)} (x : StaT c1 oc1 vs1 tq1 c2 oc2 vs2 tq2) (N : News h₀ L h news)
    (m1 : (65, tab65 c1) ∈ news) (m2 : (72, tab72 c2) ∈ news) (m3 : (c1, oc1) ∈ news) (m4 : (c2, oc2) ∈ news) : TFa h c1 oc1 vs1 tq1 c2 oc2 vs2 tq2 :=
  ⟨x.n1, x.n2, x.n3, x.n4, (N _ m1).1, (N _ m2).1, (N _ m3).1, x.d1, x.v1, (N _ m4).1, x.d2, x.v2⟩
theorem takeMod {ps : List Int} {T p : Int} {i : Nat} {zs : List Value} {tt : Tok} (h : IntsAre zs ((ps.take i).map (· % T))) (hp : ps[i]? = some p) : IntsAre (zs ++ [.int (p % T) tt]) ((ps.take (i + 1)).map (· % T)) := by
  rw [List.take_add_one, hp, List.map_append]
  exact IntsAre.append h (.cons _ tt .nil)
theorem mapAt {its : List (Addr × Obj)} {q : Addr × Obj} {a : Addr} (hq : q ∈ its) (e : q.1 = a) : a ∈ its.map (·.1) := e ▸ List.mem_map_of_mem (f := fun x : Addr × Obj => x.1) hq
section
variable {h₀ h hz : Heap} {L C D3 : Addr} {m : Str → Option Value} {its K0 : List (Addr × Obj)} {oC : Obj} {zs : List Value} {ps : List Int} {T p : Int} {i : Nat} {s : Shared} {tt : Tok} {tz : Nat}
end
noncomputable def zEnd0_k : Σ' (P1 : Heap → Heap → Heap → Addr → Addr → Addr → (Str → Option Value) → (List (Addr × Obj)) → (List (Addr × Obj)) → Obj → (List Int) → Int → Int → Shared → Tok → Nat → Prop), (∀ h₀ h hz L C D3 m its K0 oC ps T p s tt tz, P1 h₀ h hz L C D3 m its K0 oC ps T p s tt tz) → ∀ (h₀ : Heap) (h : Heap) (hz : Heap) (L : Addr) (C : Addr) (D3 : Addr) (m : Str → Option Value) (its : List (Addr × Obj)) (K0 : List (Addr × Obj)) (oC : Obj) (ps : List Int) (T : Int) (p : Int) (s : Shared) (tt : Tok) (tz : Nat) (F : Fr h₀ L h m) (N : News h₀ L h (its ++ (C, oC) :: (D3, LCg.lst []) :: (72, tabObj #[]) :: (65, tabObj #[]) :: K0)) (off : ∀ p ∈ (72, tabObj #[]) :: (65, tabObj #[]) :: K0, p.1 ∉ its.map (·.1) ∧ p.1 ≠ C ∧ p.1 ≠ D3)
    (hK : ∀ p ∈ K0, p.1 ≠ 65 ∧ p.1 ≠ 72) (kb : KeepBut [65, 72] h hz) (t0 : TF0 h hz) (hp : ps[0]? = some p), ZEnd h₀ L m its C oC D3 [] (RInv K0 ps T 1) s (.int (p % T) tt) { s with heap := hz, toks := tz } := ⟨_, by
  intro hP_1 h₀ h hz L C D3 m its K0 oC ps T p s tt tz F N off hK kb t0 hp
  revert F N off hK kb t0 hp
  exact hP_1 h₀ h hz L C D3 m its K0 oC ps T p s tt tz⟩
noncomputable def zEnd0_R (z : Sk) : Prop := zEnd0_k.1 (z.h 0) (z.h 1) (z.h 2) (z.a 0) (z.a 1) (z.a 2) (z.m 0) (z.ao 0) (z.ao 1) (z.o 0) (z.li 0) (z.i 0) (z.i 1) (z.s 0) (z.t 0) (z.n 0)
namespace zEnd0_c
def h := (skv zEnd0_R).h 1
def hz := (skv zEnd0_R).h 2
def C := (skv zEnd0_R).a 1
def D3 := (skv zEnd0_R).a 2
def its := (skv zEnd0_R).ao 0
def K0 := (skv zEnd0_R).ao 1
def oC := (skv zEnd0_R).o 0
def tz := (skv zEnd0_R).n 0
theorem r1 : zEnd0_k.1 ((skv zEnd0_R).h 0) h hz ((skv zEnd0_R).a 0) C D3 ((skv zEnd0_R).m 0) its K0 oC ((skv zEnd0_R).li 0) ((skv zEnd0_R).i 0) ((skv zEnd0_R).i 1) ((skv zEnd0_R).s 0) ((skv zEnd0_R).t 0) tz := by
  intro F N off hK kb t0 hp
  obtain ⟨c1, oc1, vs1, tq1, c2, oc2, vs2, tq2, t, f1, f2⟩ := t0
  have o72 := off _ (.head _)
  have o65 := off _ (.tail _ (.head _))
  have m72 : ((72 : Addr), tabObj #[]) ∈ its ++ (C, oC) :: (D3, LCg.lst []) :: (72, tabObj #[]) :: (65, tabObj #[]) :: K0 := List.mem_append_right _ (.tail _ (.tail _ (.head _)))
  have m65 : ((65 : Addr), tabObj #[]) ∈ its ++ (C, oC) :: (D3, LCg.lst []) :: (72, tabObj #[]) :: (65, tabObj #[]) :: K0 := List.mem_append_right _ (.tail _ (.tail _ (.tail _ (.head _))))
  have ha : ∀ a ∈ [(65 : Addr), 72], ∃ o, (a, o) ∈ its ++ (C, oC) :: (D3, LCg.lst []) :: (72, tabObj #[]) :: (65, tabObj #[]) :: K0 := by
    intro a ha
    rcases List.mem_cons.mp ha with rfl | ha
    · exact ⟨_, m65⟩
    · rw [List.mem_singleton.mp ha]; exact ⟨_, m72⟩
  have notTab : ∀ q : Addr, q ≠ 65 → q ≠ 72 → q ∉ [(65 : Addr), 72] := fun q h1 h2 hm => by
    rcases List.mem_cons.mp hm with e | hm
    · exact h1 e
    · exact h2 (List.mem_singleton.mp hm)
  have fresh : ∀ c : Addr, h.get? c = none → ∀ q ∈ its ++ (C, oC) :: (D3, LCg.lst []) :: (72, tabObj #[]) :: (65, tabObj #[]) :: K0, c ≠ q.1 := fun c hc q hq e => by
    have := (N q hq).1; rw [← e, hc] at this; cases this
  refine ⟨hz, tz, tabsR c1 oc1 c2 oc2 K0, rfl, frBut F N kb ha, newsBut F N kb ha _ ?_, ?_, .inr ⟨c1, oc1, vs1, tq1, c2, oc2, vs2, tq2, ⟨t.n1, t.n2, t.n3, t.n4, t.d1, t.v1, t.d2, t.v2⟩, rfl, (fun q hq => ⟨fresh _ f1 q (List.mem_append_right _ (.tail _ (.tail _ (.tail _ (.tail _ hq))))), fresh _ f2 q (List.mem_append_right _ (.tail _ (.tail _ (.tail _ (.tail _ hq)))))⟩), takeMod (by simpa using IntsAre.nil) hp⟩⟩
  · exact List.forall_mem_append.2 ⟨fun q hq => .inl ⟨List.mem_append_left _ hq, notTab _ (fun e => o65.1 (mapAt hq e)) (fun e => o72.1 (mapAt hq e))⟩,
      List.forall_mem_cons.2 ⟨.inl ⟨List.mem_append_right _ (.head _), notTab _ (fun e => o65.2.1 e.symm) (fun e => o72.2.1 e.symm)⟩, List.forall_mem_cons.2 ⟨.inl ⟨List.mem_append_right _ (.tail _ (.head _)), notTab _ (fun e => o65.2.2 e.symm) (fun e => o72.2.2 e.symm)⟩,
      List.forall_mem_cons.2 ⟨.inr (.inl ⟨.tail _ (.head _), t.g2⟩), List.forall_mem_cons.2 ⟨.inr (.inl ⟨.head _, t.g1⟩), List.forall_mem_cons.2 ⟨.inr (.inr ⟨f1, t.o1⟩), List.forall_mem_cons.2 ⟨.inr (.inr ⟨f2, t.o2⟩),
      fun q hq => .inl ⟨List.mem_append_right _ (.tail _ (.tail _ (.tail _ (.tail _ hq)))), notTab _ (hK _ hq).1 (hK _ hq).2⟩⟩⟩⟩⟩⟩⟩⟩
  · have fr : ∀ c : Addr, h.get? c = none → c ∉ its.map (·.1) ∧ c ≠ C ∧ c ≠ D3 := fun c hc => by
      have f := fresh c hc
      refine ⟨fun hm => ?_, f (C, oC) (List.mem_append_right _ (.head _)), f (D3, LCg.lst []) (List.mem_append_right _ (.tail _ (.head _)))⟩
      obtain ⟨q, hq, e⟩ := List.mem_map.mp hm
      exact f q (List.mem_append_left _ hq) e.symm
    exact List.forall_mem_cons.2 ⟨o72, List.forall_mem_cons.2 ⟨o65, List.forall_mem_cons.2 ⟨fr _ f1, List.forall_mem_cons.2 ⟨fr _ f2, fun q hq => off q (.tail _ (.tail _ hq))⟩⟩⟩⟩
end zEnd0_c
theorem zEnd0 {h₀ : Heap} {h : Heap} {hz : Heap} {L : Addr} {C : Addr} {D3 : Addr} {m : Str → Option Value} {its : List (Addr × Obj)} {K0 : List (Addr × Obj)} {oC : Obj} {ps : List Int} {T : Int} {p : Int} {s : Shared} {tt : Tok} {tz : Nat} (F : Fr h₀ L h m) (N : News h₀ L h (its ++ (C, oC) :: (D3, LCg.lst []) :: (72, tabObj #[]) :: (65, tabObj #[]) :: K0)) (off : ∀ p ∈ (72, tabObj #[]) :: (65, tabObj #[]) :: K0, p.1 ∉ its.map (·.1) ∧ p.1 ≠ C ∧ p.1 ≠ D3)
    (hK : ∀ p ∈ K0, p.1 ≠ 65 ∧ p.1 ≠ 72) (kb : KeepBut [65, 72] h hz) (t0 : TF0 h hz) (hp : ps[0]? = some p) : ZEnd h₀ L m its C oC D3 [] (RInv K0 ps T 1) s (.int (p % T) tt) { s with heap := hz, toks := tz } :=
  zEnd0_k.2 (fun h₀ h hz L C D3 m its K0 oC ps T p s tt tz => skva zEnd0_R zEnd0_c.r1 (sk_h h₀ <| sk_h h <| sk_h hz <| sk_a L <| sk_a C <| sk_a D3 <| sk_m m <| sk_ao its <| sk_ao K0 <| sk_o oC <| sk_li ps <| sk_i T <| sk_i p <| sk_s s <| sk_t tt <| sk_n tz <| dS)) h₀ h hz L C D3 m its K0 oC ps T p s tt tz F N off hK kb t0 hp
section
variable {h₀ h hz : Heap} {L C D3 : Addr} {m : Str → Option Value} {its K0 : List (Addr × Obj)} {oC : Obj} {zs : List Value} {ps : List Int} {T p : Int} {i : Nat} {s : Shared} {tt : Tok} {tz : Nat}
theorem zEnd1 {c1 : Addr} {oc1 : Obj} {vs1 : Array Value} {tq1 : Tok} {c2 : Addr} {oc2 : Obj} {vs2 : Array Value} {tq2 : Tok} (x : StaT c1 oc1 vs1 tq1 c2 oc2 vs2 tq2) (F : Fr h₀ L h m) (N : News h₀ L h (its ++ (C, oC) :: (D3, LCg.lst zs) :: tabsR c1 oc1 c2 oc2 K0)) (off : ∀ p ∈ tabsR c1 oc1 c2 oc2 K0, p.1 ∉ its.map (·.1) ∧ p.1 ≠ C ∧ p.1 ≠ D3)
    (kb : Keep h hz) (hc : ∀ q ∈ K0, c1 ≠ q.1 ∧ c2 ≠ q.1) (hI : IntsAre zs ((ps.take i).map (· % T))) (hp : ps[i]? = some p) : ZEnd h₀ L m its C oC D3 zs (RInv K0 ps T (i + 1)) s (.int (p % T) tt) { s with heap := hz, toks := tz } :=
  ⟨hz, tz, tabsR c1 oc1 c2 oc2 K0, rfl, frKeep F kb, newsKeep N kb, off, .inr ⟨c1, oc1, vs1, tq1, c2, oc2, vs2, tq2, x, rfl, hc, takeMod hI hp⟩⟩
end
theorem ListComp_ZF {prog : Program} {w : World} {A : Around} {E : Value → Shared → Prop} {s : Shared} {h₀ : Heap} {L : Addr} {m : Str → Option Value} {env : Env} {elt iter : Expr} {x x₂ : Str} {px px₂ tp : Pos} {tk0} {scope : Scope} {cl : List (Str × Addr)} {pos : Pos} {Q : Value → Shared → Prop} (_ : Fr h₀ L s.heap m) (hh : A.handled = none)
    (hclos : closureFor scope env = pure cl) (hcell : ∀ y ∈ scope.names, y.2 ≠ .cell) (hkind : scope.kind = .function)
    (hnames : ∀ y ∈ scope.names, y.2 = .local → scope.names.lookup y.1 = some .local) (hx : scope.names.lookup x = some .local) (hx₂ : scope.names.lookup x₂ = some .local) (hxx : x ≠ x₂)
    (h : wpAny (model prog w) A (eval iter env) (ZSrc prog w A h₀ L m env elt x x₂ scope cl Q) E s)
    (hs : ∀ x, foldedSetIterable iter env x = pure x := by intro _; rfl) :
    wpAny (model prog w) A (eval (.ListComp elt [⟨.Tuple [.Name x px, .Name x₂ px₂] tk0 tp, iter, [], 0⟩] scope pos) env) Q E s :=
  ListComp_Z hh hclos hcell hkind hnames hx hx₂ hxx h hs
theorem zipSrc {prog : Program} {w : World} {A : Around} {E : Value → Shared → Prop} {s : Shared} {h₀ : Heap} {L : Addr} {m : Str → Option Value} {env : Env} {elt : Expr} {x x₂ : Str} {scope : Scope} {cl : List (Str × Addr)} {Q : Value → Shared → Prop}
    {l1 l2 : Addr} {xs ys : List Value} {led nw₀ : List (Addr × Obj)} (Inv : Nat → List Value → List (Addr × Obj) → Prop) (F : Fr h₀ L s.heap m) (N : News h₀ L s.heap led) (m1 : (l1, LCg.lst xs) ∈ led) (m2 : (l2, LCg.lst ys) ∈ led) (hsz : xs.length ≤ 1000) (hlen : xs.length = ys.length) (hsub : ∀ p ∈ nw₀, p ∈ led)
    (J0 : Inv 0 [] nw₀) (hkeep : ∀ i ys' nw, Inv i ys' nw → (l1, LCg.lst xs) ∈ nw ∧ (l2, LCg.lst ys) ∈ nw)
    (turn : ∀ b C D (i : Nat) zs nw v₁ v₂ its oC m₂ h tk (E' : Value → Shared → Prop), i < xs.length → Inv i zs nw → xs[i]? = some v₁ → ys[i]? = some v₂ → its.map (·.1) = [b + 4, b + 2, b + 3, b, b + 1] → LCg.NsObj oC m₂ → m₂ x = some v₁ → m₂ x₂ = some v₂ → Fr h₀ L h m → News h₀ L h (its ++ (C, oC) :: (D, LCg.lst zs) :: nw) →
      (∀ p ∈ nw, p.1 ∉ its.map (·.1) ∧ p.1 ≠ C ∧ p.1 ≠ D) →
      wpAny (model prog w) A (eval elt (compEnvC scope cl C env)) (ZEnd h₀ L m its C oC D zs (Inv (i + 1)) { s with heap := h, toks := tk }) E' { s with heap := h, toks := tk })
    (fin : ∀ D zs nw h tk, Inv xs.length zs nw → Fr h₀ L h m → News h₀ L h ((D, LCg.lst zs) :: nw) → (∀ p ∈ nw, p.1 ≠ D) → Q (.ref D) { s with heap := h, toks := tk }) :
    wpAny (model prog w) A (call (.type "zip") [.ref l1, .ref l2]) (ZSrc prog w A h₀ L m env elt x x₂ scope cl Q) E s := by
  have g1 := (N _ m1).1
  have g2 := (N _ m2).1
  have h1 : s.heap.IsList l1 xs.toArray := ⟨_, g1, rfl, _, rfl⟩
  have h2 : s.heap.IsList l2 ys.toArray := ⟨_, g2, rfl, _, rfl⟩
  have hmin : min xs.toArray.size ys.toArray.size = xs.length := by simp [hlen]
  refine call_zip_2 h1 h2 fun h' hz hTI hTO hi1 hi2 hs hk => ?_
  refine fun P k => k s.heap.objs.size l1 l2 _ _ xs.toArray ys.toArray nw₀ Inv hs hz hTI hTO hi1 hi2 (h1.at fun o e => hk _ o e) (h2.at fun o e => hk _ o e) ?_ (F.keeps hk) (fun p hp => ⟨hk _ _ (N p (hsub p hp)).1, (N p (hsub p hp)).2⟩)
    (fun p hp => Heap.lt_size (N p (hsub p hp)).1) F.ns.lt (Nat.le_trans F.above (Nat.le_of_lt F.ns.lt)) (Heap.lt_size g1) (Heap.lt_size g2) J0 hkeep ?_ ?_
  · rw [hmin, sizeLine_eq]; omega
  · intro C D i zs nw v₁ v₂ its oC m₂ h tk E' hi J hv1 hv2 hits hC hm1 hm2 F' N' off'
    rw [hmin] at hi
    rw [← hits] at off'
    exact turn _ C D i zs nw v₁ v₂ its oC m₂ h tk E' hi J (by simpa using hv1) (by simpa using hv2) hits hC hm1 hm2 F' N' off'
  · intro D zs nw h tk J F' N' off'
    rw [hmin] at J
    exact fin D zs nw h tk J F' N' off'
theorem its_cons {its : List (Addr × Obj)} {a : Addr} {l : List Addr} (h : its.map (·.1) = a :: l) : ∃ q r, its = (a, q) :: r ∧ r.map (·.1) = l := by
  cases its with
  | nil => cases h
  | cons p r => exact ⟨p.2, r, by rw [← (List.cons.inj h).1], (List.cons.inj h).2⟩
theorem five_its {its : List (Addr × Obj)} {a b c d e : Addr} (h : its.map (·.1) = [a, b, c, d, e]) : ∃ q1 q2 q3 q4 q5, its = [(a, q1), (b, q2), (c, q3), (d, q4), (e, q5)] :=
  (its_cons h).elim fun q1 h => h.elim fun _ h1 => (its_cons h1.2).elim fun q2 h => h.elim fun _ h2 => (its_cons h2.2).elim fun q3 h => h.elim fun _ h3 => (its_cons h3.2).elim fun q4 h => h.elim fun _ h4 => (its_cons h4.2).elim fun q5 h => h.elim fun _ h5 =>
    ⟨q1, q2, q3, q4, q5, by rw [h1.1, h2.1, h3.1, h4.1, h5.1, List.map_eq_nil_iff.1 h5.2]⟩
theorem k_off {R nv nv2 : List (Addr × Obj)} {V Wl a : Addr} {oV t : Obj} (m : (a, t) ∈ R) (hV : ∀ p ∈ R ++ nv, p.1 ≠ V) (hW : ∀ p ∈ ((V, oV) :: R) ++ nv2, p.1 ≠ Wl) (hn : ∀ p ∈ nv, p ∈ ([] : List (Addr × Obj)) ∨ ∀ q ∈ R, p.1 ≠ q.1) (hn2 : ∀ p ∈ nv2, p ∈ nv ∨ ∀ q ∈ (V, oV) :: R, p.1 ≠ q.1) :
    (Wl ≠ a ∧ V ≠ a) ∧ ∀ p ∈ nv2, p.1 ≠ a :=
  ⟨⟨fun e => hW _ (.tail _ (List.mem_append_left _ m)) e.symm, fun e => hV _ (List.mem_append_left _ m) e.symm⟩, fun p hp => (hn2 p hp).elim (fun h => (hn p h).elim (fun h => nomatch h) fun h => h _ m) fun h => h _ (.tail _ m)⟩
theorem k_off2 {x : Nat} (h : 72 < x ∧ 65 < x) : x ≠ 65 ∧ x ≠ 72 := ⟨Nat.ne_of_gt h.2, Nat.ne_of_gt h.1⟩
theorem k_offS {x : Nat} (h : 72 < x ∧ 65 < x) : 72 < x + 1 ∧ 65 < x + 1 := ⟨Nat.lt_succ_of_lt h.1, Nat.lt_succ_of_lt h.2⟩
theorem k0_off {L D V Wl : Nat} {o1 o2 o3 o4 o5 o6 o7 o8 oD oV oW t1 t2 : Obj} {R nv nv2 : List (Addr × Obj)} (hL : 72 < L ∧ 65 < L) (hD : D ≠ 65 ∧ D ≠ 72 ∧ D ≠ L + 1 + 1 + 1 + 1 + 1 + 1 + 1 + 1)
    (hR : [(D, oD), (L + 1 + 1 + 1 + 1 + 1 + 1 + 1 + 1, o8), (L + 1 + 1 + 1 + 1 + 1 + 1 + 1, o7), (L + 1 + 1 + 1 + 1 + 1 + 1, o6), (L + 1 + 1 + 1 + 1 + 1, o5), (L + 1 + 1 + 1 + 1, o4), (L + 1 + 1 + 1, o3), (L + 1 + 1, o2), (L + 1, o1), (72, t1), (65, t2)] = R)
    (hV : ∀ p ∈ R ++ nv, p.1 ≠ V) (hW : ∀ p ∈ ((V, oV) :: R) ++ nv2, p.1 ≠ Wl) (hn : ∀ p ∈ nv, p ∈ ([] : List (Addr × Obj)) ∨ ∀ q ∈ R, p.1 ≠ q.1) (hn2 : ∀ p ∈ nv2, p ∈ nv ∨ ∀ q ∈ (V, oV) :: R, p.1 ≠ q.1) : ∀ p ∈ (Wl, oW) :: (V, oV) :: (D, oD) :: (L + 1 + 1 + 1 + 1 + 1 + 1 + 1 + 1, o8) :: (L + 1 + 1 + 1 + 1 + 1 + 1 + 1, o7) :: (L + 1 + 1 + 1 + 1 + 1 + 1, o6) :: (L + 1 + 1 + 1 + 1 + 1, o5) :: (L + 1 + 1 + 1 + 1, o4) :: (L + 1 + 1 + 1, o3) :: (L + 1 + 1, o2) :: (L + 1, o1) :: nv2, p.1 ≠ 65 ∧ p.1 ≠ 72 := by
  have q72 := k_off (show ((72 : Addr), t1) ∈ R from hR ▸ (List.Mem.tail _ (List.Mem.tail _ (List.Mem.tail _ (List.Mem.tail _ (List.Mem.tail _ (List.Mem.tail _ (List.Mem.tail _ (List.Mem.tail _ (List.Mem.tail _ (List.Mem.head _))))))))))) hV hW hn hn2
  have q65 := k_off (show ((65 : Addr), t2) ∈ R from hR ▸ (List.Mem.tail _ (List.Mem.tail _ (List.Mem.tail _ (List.Mem.tail _ (List.Mem.tail _ (List.Mem.tail _ (List.Mem.tail _ (List.Mem.tail _ (List.Mem.tail _ (List.Mem.tail _ (List.Mem.head _)))))))))))) hV hW hn hn2
  have g1 := k_offS hL
  have g2 := k_offS g1
  have g3 := k_offS g2
  have g4 := k_offS g3
  have g5 := k_offS g4
  have g6 := k_offS g5
  have g7 := k_offS g6
  refine List.forall_mem_cons.2 ⟨⟨q65.1.1, q72.1.1⟩, List.forall_mem_cons.2 ⟨⟨q65.1.2, q72.1.2⟩, List.forall_mem_cons.2 ⟨⟨hD.1, hD.2.1⟩, ?_⟩⟩⟩
  exact List.forall_mem_cons.2 ⟨k_off2 (k_offS g7), List.forall_mem_cons.2 ⟨k_off2 g7, List.forall_mem_cons.2 ⟨k_off2 g6, List.forall_mem_cons.2 ⟨k_off2 g5, List.forall_mem_cons.2 ⟨k_off2 g4, List.forall_mem_cons.2 ⟨k_off2 g3, List.forall_mem_cons.2 ⟨k_off2 g2, List.forall_mem_cons.2 ⟨k_off2 g1, fun p hp => ⟨q65.2 p hp, q72.2 p hp⟩⟩⟩⟩⟩⟩⟩⟩⟩
theorem k8_off {L D V Wl : Nat} {o1 o2 o3 o4 o5 o6 o7 o8 oD oV oW t1 t2 : Obj} {R nv nv2 : List (Addr × Obj)} (hL : 72 < L ∧ 65 < L) (hD : D ≠ 65 ∧ D ≠ 72 ∧ D ≠ L + 1 + 1 + 1 + 1 + 1 + 1 + 1 + 1)
    (hR : [(D, oD), (L + 1 + 1 + 1 + 1 + 1 + 1 + 1 + 1, o8), (L + 1 + 1 + 1 + 1 + 1 + 1 + 1, o7), (L + 1 + 1 + 1 + 1 + 1 + 1, o6), (L + 1 + 1 + 1 + 1 + 1, o5), (L + 1 + 1 + 1 + 1, o4), (L + 1 + 1 + 1, o3), (L + 1 + 1, o2), (L + 1, o1), (72, t1), (65, t2)] = R)
    (hV : ∀ p ∈ R ++ nv, p.1 ≠ V) (hW : ∀ p ∈ ((V, oV) :: R) ++ nv2, p.1 ≠ Wl) (hn : ∀ p ∈ nv, p ∈ ([] : List (Addr × Obj)) ∨ ∀ q ∈ R, p.1 ≠ q.1) (hn2 : ∀ p ∈ nv2, p ∈ nv ∨ ∀ q ∈ (V, oV) :: R, p.1 ≠ q.1) : (Wl ≠ L + 1 + 1 + 1 + 1 + 1 + 1 + 1 + 1 ∧ V ≠ L + 1 + 1 + 1 + 1 + 1 + 1 + 1 + 1) ∧ ∀ p ∈ nv2, p.1 ≠ L + 1 + 1 + 1 + 1 + 1 + 1 + 1 + 1 := k_off (show (L + 1 + 1 + 1 + 1 + 1 + 1 + 1 + 1, o8) ∈ R from hR ▸ (List.Mem.tail _ (List.Mem.head _))) hV hW hn hn2
theorem newsTab {h₀ h : Heap} {L : Addr} {led : List (Addr × Obj)} {o1 o2 : Obj} (N : News h₀ L h led) (m1 : ((65 : Addr), o1) ∈ led) (m2 : ((72 : Addr), o2) ∈ led) : News h₀ L h [(65, o1), (72, o2)] := fun p hp => by
  rcases List.mem_cons.mp hp with rfl | hp
  · exact N _ m1
  · rw [List.mem_singleton.mp hp]; exact N _ m2
end Mine.Internal
end
end
noncomputable section -- Ksc
theorem Mine.Internal.wTopOff27 : True := by w_top off; trivial
local macro_rules
  | `(tactic| walk_at $s:str) => match [("#om", "#lia")].lookup s.getString with
    | some r => `(tactic| walk_at $(Lean.Syntax.mkStrLit r))
    | none => Lean.Macro.throwUnsupported
theorem Mine.Internal.kwS_Ksc : True := by
  k_with "#d" => (repeat' (first | (with_reducible refine Prod.mk ?_ ?_) | exact default | exact Mine.Internal.dW | exact {} | exact Mine.Internal.dX | exact ⟨[], 0, 0, 0⟩))
  trivial
open PySem PySem.W PySem.Calls PyProof.Rows PyProof.Rows.LCg
-- SK 8 25
namespace Mine.Internal
section
variable {prog : Program} {w : World} {A : Around} {E : Value → Shared → Prop} {s : Shared} {h₀ : Heap} {L : Addr} {m : Str → Option Value} {env : Env}
noncomputable def SEnd (h₀ : Heap) (L : Addr) (m : Str → Option Value) (led : List (Addr × Obj)) (z : Int) (s : Shared) (y : Value) (s' : Shared) : Prop :=
  ∃ h' tk' u, y = .int z u ∧ s' = { s with heap := h', toks := tk' } ∧ Fr h₀ L h' m ∧ News h₀ L h' led
noncomputable def SSrc (prog : Program) (w : World) (A : Around) (h₀ : Heap) (L : Addr) (m : Str → Option Value) (env : Env) (elt : Expr) (x y : Str) (scope : Scope) (cl : List (Str × Addr)) (Q : Flow → Shared → Prop) (xv : Value) (s₁ : Shared) : Prop :=
  ∀ (P : Value → Prop), (∀ (r : Addr) (b : Int) (t u v : Tok) (n : Nat) (f : Nat → Int) (R : List (Addr × Obj)), A.handled = none → Fr h₀ L s₁.heap m → News h₀ L s₁.heap R → IsRange s₁.heap r 0 b 1 t u v → Builtin.Range.small 0 b 1 = true → Builtin.Range.rangeSize 0 b 1 = ((n : Nat) : Int) → n ≤ sizeLine →
    (∀ (i : Nat) (zs : List Value) I oI C oC S oS D u' h tk (E' : Value → Shared → Prop), i < n → oS.data = .cell (some (.int (i : Int) u')) → Fr h₀ L h m → News h₀ L h ((I, oI) :: (C, oC) :: (S, oS) :: (D, lst zs) :: R) →
      wpAny (model prog w) A (eval elt (compEnvC scope ((x, S) :: cl) C env)) (SEnd h₀ L m ((I, oI) :: (C, oC) :: (S, oS) :: (D, lst zs) :: R) (f i) { s₁ with heap := h, toks := tk }) E' { s₁ with heap := h, toks := tk }) →
    (∀ D zs h tk, IntsAre zs ((List.range n).map f) → Fr h₀ L h (fun z => if z = y then some (.ref D) else m z) → News h₀ L h ((D, lst zs) :: R) → (∀ p ∈ R, p.1 ≠ D) → Q .next { s₁ with heap := h, toks := tk }) → P (.ref r)) → P xv
theorem SEnd.all {led : List (Addr × Obj)} {z : Int} {P : Value → Shared → Prop}
    (k : ∀ h' tk' u, Fr h₀ L h' m → News h₀ L h' led → P (.int z u) { s with heap := h', toks := tk' }) (y : Value) (s' : Shared) (h : SEnd h₀ L m led z s y s') : P y s' := by
  obtain ⟨h', tk', u, rfl, rfl, F, N⟩ := h; exact k h' tk' u F N
theorem SSrc.elim {elt : Expr} {x y : Str} {scope : Scope} {cl : List (Str × Addr)} {Q : Flow → Shared → Prop} {xv : Value} {C : Value → Value → Env → Shared → Prop} (hS : SSrc prog w A h₀ L m env elt x y scope cl Q xv s)
    (hcf : ∀ a acc, cellsFrom a scope.names acc = (x, a) :: acc) (hpc : ∀ H, pushCells H scope.names = H.push { cls := .type "cell", data := .cell none })
    (k : ∀ (n : Nat) (f : Nat → Int) (R : List (Addr × Obj)) (H4 : Heap) (a : Nat), A.handled = none → n ≤ sizeLine → L < a → (∀ p ∈ R, p.1 < a) → (∀ c : Nat, a ≤ c → h₀.get? c = none) → Fr h₀ L H4 m → News h₀ L H4 R →
      H4.get? (a + 1) = some (lst []) → H4.get? (a + 3) = some { cls := .type "cell", data := .cell none } → H4.Ns (a + 2) (fun _ => none) → IsRangeIter H4 a (0 + ((0 : Nat) : Int) * 1) ((n : Int) - ((0 : Nat) : Int)) 1 →
      (∀ (i : Nat) (zs : List Value) I oI C oC S oS D u' h tk (E' : Value → Shared → Prop), i < n → oS.data = .cell (some (.int (i : Int) u')) → Fr h₀ L h m → News h₀ L h ((I, oI) :: (C, oC) :: (S, oS) :: (D, lst zs) :: R) →
        wpAny (model prog w) A (eval elt (compEnvC scope ((x, S) :: cl) C env)) (SEnd h₀ L m ((I, oI) :: (C, oC) :: (S, oS) :: (D, lst zs) :: R) (f i) { s with heap := h, toks := tk }) E' { s with heap := h, toks := tk }) →
      (∀ D zs h tk, IntsAre zs ((List.range n).map f) → Fr h₀ L h (fun z => if z = y then some (.ref D) else m z) → News h₀ L h ((D, lst zs) :: R) → (∀ p ∈ R, p.1 ≠ D) → Q .next { s with heap := h, toks := tk }) →
      C (.ref a) (.ref (a + 1)) { scope := scope, locals := a + 2, globals := env.globals, cells := (x, a + 3) :: cl, qual := env.qual, func := none, code := env.code, frame := env.frame, builtins := env.builtins } { s with heap := H4 }) :
    wpAny (model prog w) A (pyIter xv) (fun it s₂ => wpAny (model prog w) A (newList []) (fun acc s₃ => wpAny (model prog w) A (newFunctionEnv scope env.globals cl [] env.qual none .none (some env)) (fun cenv s₄ => C it acc cenv s₄) E s₃) E s₂) E s := by
  refine hS (fun xv => wpAny (model prog w) A (pyIter xv) _ E s) fun r b t u v n f R hh F N hr hsm hn hsz turn fin => ?_
  refine wpAny_pyIter_range hr hsm ?_
  generalize hH1 : s.heap.push { cls := .type "range_iterator", data := .fields #[rawInt 0, rawInt (Builtin.Range.rangeSize 0 b 1), rawInt 1] } = H1
  have z1 : H1.objs.size = s.heap.objs.size + 1 := by rw [← hH1, Heap.size_push]
  have hIr : IsRangeIter H1 s.heap.objs.size (0 + ((0 : Nat) : Int) * 1) ((n : Int) - ((0 : Nat) : Int)) 1 := by
    show H1.get? _ = _
    rw [← hH1, hn]; simpa using Heap.get?_push_size _ rfl
  refine wpAny_newObj_type ?_
  dsimp only
  generalize hH2 : H1.push { cls := .type "list", dict := none, data := .seq ([] : List Value).toArray } = H2
  have z2 : H2.objs.size = s.heap.objs.size + 2 := by rw [← hH2, Heap.size_push, z1]
  simp only [newFunctionEnv, Option.isSome_some, if_true]
  refine wpAny_bind (wpAny_alloc ?_)
  dsimp only
  generalize hH3 : H2.push { cls := .type "dict", data := .dict #[] } = H3
  have z3 : H3.objs.size = s.heap.objs.size + 3 := by rw [← hH3, Heap.size_push, z2]
  refine wpAny_bind (wpAny_layCells _ (fun name kind cells => by cases hkc : kind == NameKind.cell <;> simp [hkc]) _ _ _ _ ?_)
  dsimp only
  rw [hcf, hpc, z3]
  generalize hH4 : H3.push { cls := .type "cell", data := .cell none } = H4
  refine wpAny_bind ?_
  rw [List.forIn_nil]
  refine wpAny_pure (wpAny_pure ?_)
  rw [z1, z2]
  have up : ∀ p o, s.heap.get? p = some o → H4.get? p = some o := fun p o e => by
    rw [← hH4]; refine Heap.get?_push_of_some _ ?_
    rw [← hH3]; refine Heap.get?_push_of_some _ ?_
    rw [← hH2]; refine Heap.get?_push_of_some _ ?_
    rw [← hH1]; exact Heap.get?_push_of_some _ e
  have gD : H4.get? (s.heap.objs.size + 1) = some (lst []) := by
    rw [← hH4]; refine Heap.get?_push_of_some _ ?_
    rw [← hH3]; refine Heap.get?_push_of_some _ ?_
    rw [← hH2, ← z1]; exact Heap.get?_push_size _ rfl
  have gS : H4.get? (s.heap.objs.size + 3) = some { cls := .type "cell", data := .cell none } := by
    rw [← hH4, ← z3]; exact Heap.get?_push_size _ rfl
  have hNsC : H4.Ns (s.heap.objs.size + 2) (fun _ => none) := by
    have h0 := Heap.Ns.new H2 (.type "dict")
    rw [z2, hH3] at h0
    refine h0.keeps fun p o e => ?_
    rw [← hH4]; exact Heap.get?_push_of_some _ e
  have hst : IsRangeIter H4 s.heap.objs.size (0 + ((0 : Nat) : Int) * 1) ((n : Int) - ((0 : Nat) : Int)) 1 := by
    show H4.get? s.heap.objs.size = _
    rw [← hH4]; refine Heap.get?_push_of_some _ ?_
    rw [← hH3]; refine Heap.get?_push_of_some _ ?_
    rw [← hH2]; exact Heap.get?_push_of_some _ hIr
  have none₀ : ∀ c : Nat, s.heap.objs.size ≤ c → h₀.get? c = none := fun c hc => by
    cases e : h₀.get? c with
    | none => rfl
    | some o => exact absurd (Heap.lt_size (F.keep _ _ e)) (Nat.not_lt.mpr hc)
  exact k n f R H4 s.heap.objs.size hh hsz F.ns.lt (fun p hp => Heap.lt_size (N p hp).1) none₀ (F.keeps up) (nU N up) gD gS hNsC hst turn fin
noncomputable def SInv (h₀ : Heap) (L : Addr) (m : Str → Option Value) (s₁ : Shared) (a n : Nat) (f : Nat → Int) (R : List (Addr × Obj)) (oC : Obj) (k : Nat) (s' : Shared) : Prop :=
  ∀ (P : Nat → Shared → Prop), (∀ (h' : Heap) (tk i : Nat) (zs : List Value) (oS : Obj) (c : Option Value), i ≤ n → zs.length = i → IsRangeIter h' a (0 + (i : Nat) * 1) ((n : Int) - (i : Nat)) 1 → Fr h₀ L h' m →
    News h₀ L h' ((a + 2, oC) :: (a + 3, oS) :: (a + 1, lst zs) :: R) → oS.data = .cell c → IntsAre zs ((List.range i).map f) → P (n + 1 - i) { s₁ with heap := h', toks := tk }) → P k s'
theorem SInv.all {a n : Nat} {f : Nat → Int} {R : List (Addr × Obj)} {oC : Obj} {P : Nat → Shared → Prop}
    (H : ∀ (h' : Heap) (tk i : Nat) (zs : List Value) (oS : Obj) (c : Option Value), i ≤ n → zs.length = i → IsRangeIter h' a (0 + (i : Nat) * 1) ((n : Int) - (i : Nat)) 1 → Fr h₀ L h' m →
      News h₀ L h' ((a + 2, oC) :: (a + 3, oS) :: (a + 1, lst zs) :: R) → oS.data = .cell c → IntsAre zs ((List.range i).map f) → P (n + 1 - i) { s with heap := h', toks := tk }) (k : Nat) (s' : Shared) (h : SInv h₀ L m s a n f R oC k s') : P k s' := h P H
theorem Assign_ListComp_S {elt iter : Expr} {x y : Str} {px py : Pos} {scope : Scope} {cl : List (Str × Addr)} {pos spos : Pos} {Q : Flow → Shared → Prop} (_ : Fr h₀ L s.heap m) (hLe : env.locals = L)
    (hsw : swapsWith (.ListComp elt [⟨.Name x px, iter, [], 0⟩] scope pos) (some (.Name y py)) spos.line env = pure true)
    (hclos : closureFor scope env = pure cl) (hkind : scope.kind = .function)
    (hnames : ∀ z ∈ scope.names, z.2 = .local → scope.names.lookup z.1 = some .local) (hcf : ∀ a acc, cellsFrom a scope.names acc = (x, a) :: acc) (hpc : ∀ H, pushCells H scope.names = H.push { cls := .type "cell", data := .cell none })
    (hxr : (relabel scope env).names.lookup x = some .cell)
    (hy : env.kindOf y = some .local) (hp : (env.scope.kind == .class || (env.scope.kind == .module && env.locals != env.globals)) = false)
    (h : wpAny (model prog w) A (eval iter env) (SSrc prog w A h₀ L m env elt x y scope cl Q) E s)
    (hs : ∀ x, foldedSetIterable iter env x = pure x := by intro _; rfl) :
    wpAny (model prog w) A (exec (.Assign [.Name y py] (.ListComp elt [⟨.Name x px, iter, [], 0⟩] scope pos) spos) env) Q E s := by
  subst hLe
  rw [exec_Assign_Name_used _ _ _ _ hsw]
  refine wpAny_bind (wpAny_standAt (wpAny_bind ?_))
  show wpAny _ A (do let _ ← comprehension (.ListComp elt [⟨.Name x px, iter, [], 0⟩] scope pos) scope env _ (newList []) false (eval iter env) (some (assign (.Name y py) env))) _ _ s
  refine wpAny_bind (wpAny_mono (wpAny_comprehension_free (use := some (assign (.Name y py) env)) (Q := fun _ s' => Q .next s') rfl hs hclos hkind hnames
    (wpAny_mono h (fun xv s₁ h₁ => ?_) fun _ _ e => e)) (fun _ s' hq => wpAny_pure (wpAny_pure hq)) fun _ _ e => e)
  refine SSrc.elim h₁ hcf hpc fun n f R H4 a hh hsz hLt hRl none₀ F N gD gS hNsC hst turn fin => ?_
  show codeAny _ A (.compStart _ 0 _ _ (compEnvC scope ((x, a + 3) :: cl) (a + 2) env)) _ _
  rename_i za1; revert hsw hclos hkind hnames hcf hpc hxr hy hp hs za1 h hh hsz hLt hRl none₀ F N gD gS hNsC hst turn fin; clear h₁; revert prog w A E s h₀ m env elt iter x y px py scope cl pos spos Q s₁ n f R H4 a; refine (sk25 (P := ?Pza) ?dza ((?fza : ∀ a b c d e f g h i j k l m n o p q r s t u v w x y, ?Pza a b c d e f g h i j k l m n o p q r s t u v w x y) _ _ _ _ _ _ _ _ _ _ _ _ _ _ _ _ _ _ _ _ _ _ _ _ _) : _); (case dza => walk_at "#d"); intro prog w A E s h₀ m env elt iter x y px py scope cl pos spos Q s₁ n f R H4 a hsw hclos hkind hnames hcf hpc hxr hy hp hs za1 h hh hsz hLt hRl none₀ F N gD gS hNsC hst turn fin
  obtain ⟨oC, heC, hoC⟩ := ns_obj hNsC
  have neL : ∀ c : Nat, a ≤ c → c ≠ env.locals := fun c hc e => by rw [e] at hc; exact absurd hLt (Nat.not_lt.mpr hc)
  have neR : ∀ c : Nat, a ≤ c → ∀ p ∈ R, p.1 ≠ c := fun c hc p hp e => by have := hRl p hp; rw [e] at this; exact absurd this (Nat.not_lt.mpr hc)
  have W := range_walks (prog := prog) (w := w) (I := a) hh 0 n
  have loop : ∀ tk0, codeAny (model prog w) A (.compLoop (.ListComp elt [⟨.Name x px, iter, [], 0⟩] scope pos) 0 (.ref a) (.ref (a + 1)) (compEnvC scope ((x, a + 3) :: cl) (a + 2) env))
        (compPost (model prog w) A E (some (assign (.Name y py) env)) (fun _ s' => Q .next s') (.ref (a + 1)) (a + 2)) { s₁ with heap := H4, toks := tk0 } := by
    intro tk0
    refine codeAny_compLoop_tests (SInv h₀ env.locals m s₁ a n f R oC) ?_ (n + 1)
      (fun P k => k H4 tk0 0 [] ({ cls := .type "cell", data := .cell none } : Obj) none (Nat.zero_le _) rfl hst F (nC heC (neL _ (Nat.le_add_right _ _)) (none₀ _ (Nat.le_add_right _ _)) (nC gS (neL _ (Nat.le_add_right _ _)) (none₀ _ (Nat.le_add_right _ _)) (nC gD (neL _ (Nat.le_add_right _ _)) (none₀ _ (Nat.le_add_right _ _)) N))) rfl .nil)
    · refine SInv.all fun h' tk i zs oS c hi hzl hst' F' N' hd hI => ?_
      have offI : ∀ p ∈ (a + 2, oC) :: (a + 3, oS) :: (a + 1, lst zs) :: R, p.1 ≠ a := aC (Nat.ne_of_gt (Nat.lt_add_of_pos_right (by decide))) (aC (Nat.ne_of_gt (Nat.lt_add_of_pos_right (by decide))) (aC (Nat.ne_of_gt (Nat.lt_add_of_pos_right (by decide))) (neR a (Nat.le_refl _))))
      have N₂' : ∀ h₂, (∀ b o, b ∉ [a] → h'.get? b = some o → h₂.get? b = some o) → News h₀ env.locals h₂ ((a + 2, oC) :: (a + 3, oS) :: (a + 1, lst zs) :: R) := fun h₂ hk₂ => news_but N' hk₂ offI
      have F₂' : ∀ h₂, (∀ b o, b ∉ [a] → h'.get? b = some o → h₂.get? b = some o) → Fr h₀ env.locals h₂ m := fun h₂ hk₂ => fr_but F' hk₂ (Ne.symm (neL a (Nat.le_refl _))) (none₀ a (Nat.le_refl _))
      revert heC hoC hi hzl hst' F' N' hd hI offI N₂' F₂'; revert oC tk0 h' tk i zs oS c; refine (sk8 (P := ?Pzb) ?dzb ((?fzb : ∀ a b c d e f g h, ?Pzb a b c d e f g h) _ _ _ _ _ _ _ _) : _); (case dzb => walk_at "#d"); intro oC tk0 h' tk i zs oS c heC hoC hi hzl hst' F' N' hd hI offI N₂' F₂'
      by_cases hlt : i < n
      · refine W.item i _ _ _ hlt hst' fun v h₂ tk₂ hPv hst₂ hk₂ => ?_
        refine hPv.elim fun u' hv => ?_
        have N₂ := N₂' h₂ hk₂
        have F₂ := F₂' h₂ hk₂
        refine wpAny_assign_Name (wpAny_storeName_cell (c := a + 3) (v₀ := c) hkind hxr (by simp [compEnvC]) ⟨oS, (N₂ _ (.tail _ (.head _))).1, hd⟩ fun h₃ hv₃ hs₃ => ?_)
        refine wpAny_tests_nil ?_
        simp only [if_true]
        obtain ⟨oS', heS, hdS⟩ := hv₃
        have F₃ : Fr h₀ env.locals h₃ m := F₂.change hs₃ (neL _ (Nat.le_add_right _ _)) (none₀ _ (Nat.le_add_right _ _))
        have hst₃ : IsRangeIter h₃ a (0 + ((i + 1 : Nat) : Int) * 1) ((n : Int) - ((i + 1 : Nat) : Int)) 1 := W.frame _ _ _ hst₂ fun b hb o e => hs₃.extBut b o (by rw [List.mem_singleton.mp hb]; exact Nat.ne_of_lt (Nat.lt_add_of_pos_right (by decide))) e
        have T1 := nT N₂
        have T2 := nT T1
        have N₃ : News h₀ env.locals h₃ ((a, _) :: (a + 2, oC) :: (a + 3, oS') :: (a + 1, lst zs) :: R) := nC hst₃ (neL _ (Nat.le_refl _)) (none₀ _ (Nat.le_refl _)) (nK N₂ (hs₃.extBut _ _ (Nat.ne_of_lt (Nat.add_lt_add_left (by decide) _)) (nG N₂))
          (nK T1 heS (nK T2 (hs₃.extBut _ _ (Nat.ne_of_lt (Nat.add_lt_add_left (by decide) _)) (nG T2)) (nS (nT T2) hs₃ (neR _ (Nat.le_add_right _ _))))))
        refine wpAny_mono (turn i zs a _ (a + 2) oC (a + 3) oS' (a + 1) u' h₃ _ _ hlt (by rw [hdS, hv, Int.zero_add]) F₃ N₃) (SEnd.all fun h₄ tk₄ u4 F₄ N₄ => ?_) fun _ _ e => e
        have M1 := nT N₄
        have M2 := nT M1
        have M3 := nT M2
        refine append_at (hsz := by show zs.toArray.size ≤ sizeLine; rw [List.size_toArray, hzl]; exact Nat.le_trans hi hsz) (nG M3) fun h₅ hs₅ hD₅ => ?_
        exact ⟨n + 1 - (i + 1), Nat.sub_lt_sub_left (Nat.lt_succ_of_lt hlt) (Nat.lt_succ_self i), fun P k => k h₅ tk₄ (i + 1) (zs ++ [.int (f i) u4]) oS' _ hlt (by rw [List.length_append, List.length_singleton, hzl]) (hs₅.extBut _ _ (Nat.ne_of_lt (Nat.lt_add_of_pos_right (by decide))) (nG N₄))
          (F₄.change hs₅ (neL _ (Nat.le_add_right _ _)) (none₀ _ (Nat.le_add_right _ _)))
          (nK M1 (hs₅.extBut _ _ (Nat.ne_of_gt (Nat.add_lt_add_left (by decide) _)) (nG M1)) (nK M2 (hs₅.extBut _ _ (Nat.ne_of_gt (Nat.add_lt_add_left (by decide) _)) (nG M2)) (nK M3 (hD₅.trans (congrArg some (lst_snoc zs _))) (nS (nT M3) hs₅ (neR _ (Nat.le_add_right _ _))))))
          hdS (by rw [List.range_succ, List.map_append]; exact IntsAre.append hI (.cons _ u4 .nil))⟩
      · have e : i = n := Nat.le_antisymm hi (Nat.not_lt.mp hlt)
        refine W.done _ _ _ (Eq.subst (motive := fun j => IsRangeIter h' a (0 + ((j : Nat) : Int) * 1) ((n : Int) - (j : Nat)) 1) e hst') fun h₂ tk₂ hk₂ => ?_
        have N₂ := N₂' h₂ hk₂
        have F₂ := F₂' h₂ hk₂
        have hCn := hoC.ns (N₂ _ (.head _)).1
        show wpAny _ A (assign (.Name y py) env (.ref (a + 1))) _ _ _
        refine wpAny_assign_Name (wpAny_storeName_local hy F₂.ns (fun h₅ hn₅ hs₅ => ?_) hp)
        have hL₀ : h₀.get? env.locals = none := Heap.get?_none_of_le F₂.above
        have F₅ : Fr h₀ env.locals h₅ (fun z => if z = y then some (.ref (a + 1)) else m z) := ⟨hn₅, fun b o e => hs₅.extBut b o (fun q => by rw [q, hL₀] at e; cases e) (F₂.keep b o e), F₂.above⟩
        exact ⟨_, hCn.sameBut hs₅ (neL _ (Nat.le_add_right _ _)), fun h'' hs'' => fin (a + 1) zs h'' _ (Eq.subst (motive := fun j => IntsAre zs ((List.range j).map f)) e hI) (F₅.change hs'' (neL _ (Nat.le_add_right _ _)) (none₀ _ (Nat.le_add_right _ _)))
          (nS (News.set (nT (nT N₂)) hs₅) hs'' (aC (Nat.ne_of_lt (Nat.add_lt_add_left (by decide) _)) (neR _ (Nat.le_add_right _ _)))) (fun p hp => neR _ (Nat.le_add_right _ _) p hp)⟩
  exact codeAny_compStart_list (loop _) (W.self 0 _ _ _ hst (loop _))
end
end Mine.Internal
end
section
local macro_rules | `(tactic| omega) => `(tactic| lia)
noncomputable section -- Ksf
open PySem PySem.W PySem.Calls PyProof.Rows PyProof.Rows.LCg PyProof.Rows.LCt
namespace Mine.Internal
noncomputable def TEnd (h₀ : Heap) (L : Addr) (m : Str → Option Value) (led : List (Addr × Obj)) (b : Bool) (s : Shared) (ok : Bool) (s' : Shared) : Prop :=
  ok = b ∧ ∃ h' tk', s' = { s with heap := h', toks := tk' } ∧ Fr h₀ L h' m ∧ News h₀ L h' led
theorem compFilt {prog : Program} {w : World} {A : Around} {h₀ : Heap} {L : Addr} {m : Str → Option Value} {env : Env} {ct elt : Expr} {x : Str} {scope : Scope} {cl : List (Str × Addr)} {s : Shared} {S : List (Addr × Obj) → Prop} {its : Array Value} {Fin : List Value → List (Addr × Obj) → Prop} {n : Nat}
    (ks : List Int) (p : Int → Bool) (R : List (Addr × Obj)) (hn : n = ks.length) (hI : IntsAre its.toList ks) (hS : S R)
    (test : ∀ k t I oI C oC D m₂ h tk ys (E' : Value → Shared → Prop), k ∈ ks → NsObj oC m₂ → m₂ x = some (.int k t) → Fr h₀ L h m → News h₀ L h ((I, oI) :: (C, oC) :: (D, lst ys) :: R) →
      wpAny (model prog w) A (isTrue ct (compEnvC scope cl C env) (eval ct (compEnvC scope cl C env))) (TEnd h₀ L m ((I, oI) :: (C, oC) :: (D, lst ys) :: R) (p k) { s with heap := h, toks := tk }) E' { s with heap := h, toks := tk })
    (item : ∀ k t I oI C oC D m₂ h tk ys (E' : Value → Shared → Prop), k ∈ ks → NsObj oC m₂ → m₂ x = some (.int k t) → Fr h₀ L h m → News h₀ L h ((I, oI) :: (C, oC) :: (D, lst ys) :: R) →
      wpAny (model prog w) A (eval elt (compEnvC scope cl C env)) (SEnd h₀ L m ((I, oI) :: (C, oC) :: (D, lst ys) :: R) k { s with heap := h, toks := tk }) E' { s with heap := h, toks := tk })
    (fin : ∀ ys, IntsAre ys (ks.filter p) → Fin ys R) : CompRestT prog w A h₀ L m env ct elt x scope cl s S (fun i v => its[i]? = some v) Fin n 0 [] R := by
  have key : ∀ (j i : Nat) (ys : List Value), i + j = n → IntsAre ys ((ks.take i).filter p) → CompRestT prog w A h₀ L m env ct elt x scope cl s S (fun i v => its[i]? = some v) Fin j i ys R := by
    intro j
    induction j with
    | zero =>
      intro i ys hi hy
      refine CompRestT.zero (fin ys ?_)
      rwa [List.take_of_length_le (by omega)] at hy
    | succ j ih =>
      intro i ys hi hy
      refine CompRestT.succ ?_
      intro v I oI C oC D m₂ h tk E' hv hC hx F N off ne
      obtain ⟨k, t, rfl, hk⟩ := IntsAre.at hI i v (by rw [Array.getElem?_toList]; exact hv)
      have hkm := List.mem_of_getElem? hk
      have htk : ks.take (i + 1) = ks.take i ++ [k] := by rw [List.take_add_one, hk]; rfl
      refine wpAny_mono (test k t I oI C oC D m₂ h tk ys E' hkm hC hx F N) (fun ok s' hq => ?_) fun _ _ e => e
      obtain ⟨rfl, h', tk', rfl, F', N'⟩ := hq
      cases hp : p k with
      | true =>
        rw [if_pos rfl]
        refine wpAny_mono (item k t I oI C oC D m₂ h' tk' ys E' hkm hC hx F' N') (fun y s'' hq => ?_) fun _ _ e => e
        obtain ⟨h'', tk'', u, rfl, rfl, F'', N''⟩ := hq
        refine ⟨h'', tk'', R, rfl, F'', N'', off, hS, ih (i + 1) _ (by omega) ?_⟩
        rw [htk, List.filter_append, List.filter_cons_of_pos hp, List.filter_nil]
        exact IntsAre.append hy (.cons _ u .nil)
      | false =>
        rw [if_neg (by decide)]
        refine ⟨h', tk', R, rfl, F', N', off, hS, ih (i + 1) _ (by omega) ?_⟩
        rw [htk, List.filter_append, List.filter_cons_of_neg (by rw [hp]; decide), List.filter_nil, List.append_nil]
        exact hy
  exact key n 0 [] (by omega) (by simpa using IntsAre.nil)
theorem rangeSrc {prog : Program} {w : World} {A : Around} {E : Value → Shared → Prop} {s : Shared} {h₀ : Heap} {L : Addr} {m : Str → Option Value} {env : Env} {elt : Expr} {x y : Str} {scope : Scope} {cl : List (Str × Addr)} {Q : Flow → Shared → Prop} {z : Int} {t : Tok} {led : List (Addr × Obj)}
    (n : Nat) (f : Nat → Int) (R : List (Addr × Obj)) (F : Fr h₀ L s.heap m) (N : News h₀ L s.heap led) (hsub : ∀ p ∈ R, p ∈ led) (hh : A.handled = none) (hz : z = (n : Int)) (hn : n ≤ 1000)
    (turn : ∀ (i : Nat) (zs : List Value) I oI C oC S oS D u' h tk (E' : Value → Shared → Prop), i < n → oS.data = .cell (some (.int (i : Int) u')) → Fr h₀ L h m → News h₀ L h ((I, oI) :: (C, oC) :: (S, oS) :: (D, lst zs) :: R) →
      wpAny (model prog w) A (eval elt (compEnvC scope ((x, S) :: cl) C env)) (SEnd h₀ L m ((I, oI) :: (C, oC) :: (S, oS) :: (D, lst zs) :: R) (f i) { s with heap := h, toks := tk }) E' { s with heap := h, toks := tk })
    (fin : ∀ D zs h tk, IntsAre zs ((List.range n).map f) → Fr h₀ L h (fun z => if z = y then some (.ref D) else m z) → News h₀ L h ((D, lst zs) :: R) → (∀ p ∈ R, p.1 ≠ D) → Q .next { s with heap := h, toks := tk }) :
    wpAny (model prog w) A (call (.type "range") [.int z t]) (SSrc prog w A h₀ L m env elt x y scope cl Q) E s := by
  subst hz
  refine range1_rows F N fun h' tk t₁ u₁ v₁ hr F' N' hk => ?_
  refine fun P k => k _ (n : Int) t₁ u₁ v₁ n f R hh F' (fun p hp => N' p (hsub p hp)) hr (rs_small (by decide) (by decide) (by omega) (by omega)) ?_ ?_ turn fin
  · rw [rs_one]; omega
  · rw [sizeLine_eq]; omega
theorem sec_count {ps : List Int} {T : Int} {N : Int} {i : Nat} (hT : 1 ≤ T) : (((ps.map (· % T)).filter fun k => decide ((k * N).fdiv T = (i : Int))).length : Int) = ((ps.map (secP N T)).count (i : Int) : Nat) := by
  congr 1
  induction ps with
  | nil => rfl
  | cons p ps ih =>
    have e : (p % T * N).fdiv T = secP N T p := by unfold secP; exact Int.fdiv_eq_ediv_of_nonneg _ (by omega)
    rw [List.map_cons, List.map_cons, List.count_cons, List.filter_cons, e]
    by_cases h : secP N T p = (i : Int)
    · simp [h, ih]
    · simp [h, ih]
end Mine.Internal
end
end
noncomputable section -- KlawF
theorem Mine.Internal.wTopOff28 : True := by w_top off; trivial
local macro_rules | `(tactic| walk_at "no such line") => `(tactic| fail)
local macro_rules
  | `(tactic| walk_at $s:str) => match [("eval BinOp", "#bin"), ("spliced", "#args"), ("isTrue Compare", "#cmp"), ("exec Assign", "#asg0"), ("exec Return some", "#ret"), ("#step", "#st3"), ("#on", "#skip"), ("subscriptTail", "#o1KlawF"), ("assign Tuple cons ref", "#o2KlawF"), ("exec Assign cons ListComp", "#o3KlawF"), ("CompSrc", "#o4KlawF"), ("call ref", "#o5KlawF"), ("call type:range", "#o6KlawF"), ("eval ListComp", "#o7KlawF"), ("CompSrcT", "#o8KlawF"), ("call builtin:len", "#o9KlawF"), ("call type:zip", "#o10KlawF"), ("compareOp In ref ref", "#o11KlawF")].lookup s.getString with
    | some r => `(tactic| walk_at $(Lean.Syntax.mkStrLit r))
    | none => Lean.Macro.throwUnsupported
theorem Mine.Internal.kwS_KlawF : True := by
  k_with "#d" => (repeat' (first | (with_reducible refine Prod.mk ?_ ?_) | exact default | exact Mine.Internal.dW | exact {} | exact Mine.Internal.dX | exact ⟨[], 0, 0, 0⟩))
  trivial
open PySem PySem.W PyProof.Rows
-- SK 25 26
namespace Mine.Internal
set_option Elab.async false
noncomputable def First : Prop := True
theorem Mine.Internal.kw1_KlawF : True := by
  k_with "#o1KlawF" => (k_here; (with_reducible show wpAny _ _ (subscriptTail (Expr.List _ _) (PySem.Expr.Slice _ _ none _) (Value.ref _) (Value.ref _)) _ _ _); k_dflt (refine kba_turn (value' := PySem.Expr.Name (PySem.Str.ofString "_") ⟨0, 0, 0, 0⟩) (fun _ => rfl) ?_); k_dflt (refine' kmk_slice_ints (s := ⟨_, _, _, _, _⟩) (vs := [_, _, _, _, _]) (ns := [6, 1, 33, 45, 4]) ?q1 ?q2 ?q3 ?q4 ?q5 ?q6 ?q7 ?q8 ?q0 ?q9 ?qa ?qb; (case q1 => k_asm); (case q2 => k_asm); (case q3 => kmk_list); (case q4 => kmk_part); (case q5 => kmk_part); (case q6 => exact .cons _ _ (.cons _ _ (.cons _ _ (.cons _ _ (.cons _ _ .nil))))); (case q7 => exact kmk_from (.cons _ _ (.cons _ _ (.cons _ _ (.cons _ _ (.cons _ _ .nil))))) (by omega)); (case q8 => exact rfl); (case q9 => with_unfolding_all rfl); (case qa => kmk_pure); (case qb => exact Nat.le_of_ble_eq_true rfl)); intro _ _ _ _ _ l1; (try k_lt l1); revert l1; intro _ _ _ _; (try k_sweep))
  trivial
noncomputable def Unp : Prop := True
theorem Mine.Internal.kw2_KlawF : True := by
  k_with "#o2KlawF" => (k_here; (fail_if_success (have : Unp := by assumption)); refine stopHere ?_)
  trivial
theorem five (ns : List Int) : ∃ a b c d e : Int, List.map (fun k' => k'.fmod 1000000) (List.take 5 ns) ++ List.drop ((List.map (fun k' => k'.fmod 1000000) (List.take 5 ns)).length : Int).toNat [6, 1, 33, 45, 4] = [a, b, c, d, e] ∧
    (0 ≤ a ∧ a < 1000000) ∧ (0 ≤ b ∧ b < 1000000) ∧ (0 ≤ c ∧ c < 1000000) ∧ (0 ≤ d ∧ d < 1000000) ∧ (0 ≤ e ∧ e < 1000000) := by
  have hm : ∀ k : Int, 0 ≤ k.fmod 1000000 ∧ k.fmod 1000000 < 1000000 := fun k => ⟨Int.fmod_nonneg_of_pos k (by decide), Int.fmod_lt_of_pos k (by decide)⟩
  match ns with
  | [] => exact ⟨6, 1, 33, 45, 4, rfl, by decide, by decide, by decide, by decide, by decide⟩
  | [x1] => exact ⟨_, 1, 33, 45, 4, rfl, hm x1, by decide, by decide, by decide, by decide⟩
  | [x1, x2] => exact ⟨_, _, 33, 45, 4, rfl, hm x1, hm x2, by decide, by decide, by decide⟩
  | [x1, x2, x3] => exact ⟨_, _, _, 45, 4, rfl, hm x1, hm x2, hm x3, by decide, by decide⟩
  | [x1, x2, x3, x4] => exact ⟨_, _, _, _, 4, rfl, hm x1, hm x2, hm x3, hm x4, by decide⟩
  | x1 :: x2 :: x3 :: x4 :: x5 :: r => exact ⟨_, _, _, _, _, rfl, hm x1, hm x2, hm x3, hm x4, hm x5⟩
theorem ints1 {ws : List Value} {a : Int} {l : List Int} (h : IntsAre ws (a :: l)) : ∃ t r, ws = .int a t :: r ∧ IntsAre r l := by
  cases h with | cons _ t h => exact ⟨_, _, rfl, h⟩
theorem ints5 {ws : List Value} {a b c d e : Int} (h : IntsAre ws [a, b, c, d, e]) : ∃ t1 t2 t3 t4 t5, ws = [.int a t1, .int b t2, .int c t3, .int d t4, .int e t5] := by
  obtain ⟨t1, r1, rfl, h1⟩ := ints1 h
  obtain ⟨t2, r2, rfl, h2⟩ := ints1 h1
  obtain ⟨t3, r3, rfl, h3⟩ := ints1 h2
  obtain ⟨t4, r4, rfl, h4⟩ := ints1 h3
  obtain ⟨t5, r5, rfl, h5⟩ := ints1 h4
  exact ⟨t1, t2, t3, t4, t5, by cases h5; rfl⟩
theorem subC {α : Type} {a : α} {l K : List α} (h : a ∈ K) (k : ∀ p ∈ l, p ∈ K) : ∀ p ∈ a :: l, p ∈ K := fun p hp => by
  cases hp with
  | head => exact h
  | tail _ t => exact k p t
theorem pick11 {g h : Heap} {L : Addr} {p1 x2 x3 x4 x5 x6 : Addr × Obj} {r : List (Addr × Obj)} (N : News g L h (p1 :: x2 :: x3 :: x4 :: x5 :: x6 :: r)) : News g L h (p1 :: r) := fun p hp => N p (subC (.head _) (fun p hp => .tail _ (.tail _ (.tail _ (.tail _ (.tail _ (.tail _ hp)))))) p hp)
theorem placesEq (a1 a2 a3 : Int) (h : 0 ≤ a1 ∧ 0 ≤ a2) : List.map (fun k' => a3.fmod 100 - 50 + (1 + a2.fmod 5) * k') (rangeKs 0 (1 + a1.fmod 12 - 0).toNat) = placesL (1 + a1.fmod 12).toNat ((1 + a2.fmod 5).toNat : Nat) (a3.fmod 100 - 50) := by
  have h5 : 0 ≤ a2.fmod 5 := Int.fmod_nonneg_of_pos a2 (by decide)
  unfold rangeKs placesL
  rw [List.map_map, Int.sub_zero, Int.toNat_of_nonneg (by omega)]
  refine List.map_congr_left fun i _ => ?_
  simp only [Function.comp_apply, Int.zero_add]
theorem mkLaw {g : Heap} {L : Addr} {h : Heap} {a1 a2 a3 a4 a5 : Int} {Mr : Str → Option Value} {D : Addr} {pys : List Value} {o1 o2 o3 o4 o5 o6 o7 o8 : Obj} {u1 u2 u3 u4 u5 u6 u7 : Tok} {x1 : Int} (hb : 0 ≤ a1 ∧ 0 ≤ a2)
    (F : Fr g L h (fun y => if y = Str.ofString "places" then some (.ref D) else Mr y))
    (N : News g L h [(D, LCg.lst pys), (L + 1 + 1 + 1 + 1 + 1 + 1 + 1 + 1, o8), (L + 1 + 1 + 1 + 1 + 1 + 1 + 1, o7), (L + 1 + 1 + 1 + 1 + 1 + 1, o6), (L + 1 + 1 + 1 + 1 + 1, o5), (L + 1 + 1 + 1 + 1, o4), (L + 1 + 1 + 1, o3), (L + 1 + 1, o2), (L + 1, o1), (72, tabObj #[]), (65, tabObj #[])])
    (P : IntsAre pys (List.map (fun k' => a3.fmod 100 - 50 + (1 + a2.fmod 5) * k') (rangeKs 0 (1 + a1.fmod 12 - 0).toNat)))
    (d1 : o1.data = Data.cell (some (Value.int x1 u1))) (d2 : o2.data = Data.cell (some (Value.int (1 + a2.fmod 5) u2))) (d3 : o3.data = Data.cell (some (Value.int ((1 + a1.fmod 12) * (1 + a2.fmod 5)) u3))) (d4 : o4.data = Data.cell (some (Value.int (1 + a4.fmod 8) u4)))
    (d5 : o5.data = Data.cell (some (Value.int (1 + (a4.fdiv 8).fmod 8) u5))) (d6 : o6.data = Data.cell (some (Value.int (1 + (a4.fdiv 64).fmod 7) u6))) (d7 : o7.data = Data.cell (some (Value.int (1 + a5.fmod 8) u7))) (d8 : o8.data = Data.cell none)
    (ne : D ≠ 65 ∧ D ≠ 72 ∧ D ≠ L + 1 + 1 + 1 + 1 + 1 + 1 + 1 + 1) : LawPE g L h := by
  have f : ∀ (a k : Int), 0 < k → 0 ≤ a.fmod k ∧ a.fmod k < k := fun a k hk => ⟨Int.fmod_nonneg_of_pos a hk, Int.fmod_lt_of_pos a hk⟩
  have f1 := f a1 12 (by decide)
  have f2 := f a2 5 (by decide)
  have f3 := f a3 100 (by decide)
  have f4 := f a4 8 (by decide)
  have f5 := f (a4.fdiv 8) 8 (by decide)
  have f6 := f (a4.fdiv 64) 7 (by decide)
  have f7 := f a5 8 (by decide)
  have e1 : (((1 + a1.fmod 12).toNat : Nat) : Int) = 1 + a1.fmod 12 := Int.toNat_of_nonneg (by omega)
  have e2 : (((1 + a2.fmod 5).toNat : Nat) : Int) = 1 + a2.fmod 5 := Int.toNat_of_nonneg (by omega)
  rw [placesEq a1 a2 a3 hb] at P
  refine ⟨(1 + a1.fmod 12).toNat, (1 + a2.fmod 5).toNat, a3.fmod 100 - 50, 1 + a4.fmod 8, 1 + (a4.fdiv 8).fmod 8, 1 + (a4.fdiv 64).fmod 7, 1 + a5.fmod 8, Mr, D, pys, o1, o2, o3, o4, o5, o6, o7, o8, u1, u2, u3, u4, u5, u6, u7, x1, ?_⟩
  exact ⟨⟨by omega, by omega, by omega, by omega, by omega, by omega, by omega⟩, F, N, P, d1, by unfold cellI; rw [e2]; exact d2, by unfold cellI; rw [e1, e2]; exact d3, d4, d5, d6, d7, d8, ne⟩
theorem Mine.Internal.kw3_KlawF : True := by
  k_with "#o3KlawF" => ((fail_if_success (have : First := by assumption)); k_here; (with_reducible show wpAny _ _ (exec (Stmt.Assign _ (Expr.ListComp _ _ _ _) _) _) _ _ _); (fail_if_success (have : Passed := by assumption)); refine stopHere ?_)
  k_with "#o4KlawF" => ((fail_if_success (have : First := by assumption)); k_here; refine stopHere ?_)
  k_with "#o5KlawF" => ((fail_if_success (have : First := by assumption)); k_here; (first | (with_reducible show wpAny _ _ (call (Value.ref 200) _) _ _ _) | (with_reducible show wpAny _ _ (call (Value.ref 207) _) _ _ _) | (with_reducible show wpAny _ _ (call (Value.ref 214) _) _ _ _) | (with_reducible show wpAny _ _ (call (Value.ref 193) _) _ _ _) | (with_reducible show wpAny _ _ (call (Value.ref 188) _) _ _ _)); refine stopHere ?_)
  trivial
noncomputable abbrev fHsv (t sh lv : Int) (p : Int) : UInt64 × UInt64 × UInt64 := (hsvR (divI (p + 50 * t) t) (divI sh 8) (divI lv 8), hsvG (divI (p + 50 * t) t) (divI sh 8) (divI lv 8), hsvB (divI (p + 50 * t) t) (divI sh 8) (divI lv 8))
noncomputable abbrev fHls (t sh lt : Int) (p : Int) : UInt64 × UInt64 × UInt64 := (hlsX p t sh lt, hlsY p t sh lt, hlsZ p t sh lt)
noncomputable def ColPost (g : Heap) (L : Addr) (M : Str → Option Value) (x : Str) (R nv₀ : List (Addr × Obj)) (f : Int → UInt64 × UInt64 × UInt64) (ps : List Int) (h : Heap) : Prop :=
  ∃ V vs nv, Fr g L h (fun y => if y = x then some (.ref V) else M y) ∧ News g L h ((V, LCg.lst vs) :: (R ++ nv)) ∧ (∀ p ∈ nv₀, p ∈ nv) ∧ ColsN f ps ps.length vs nv ∧ (∀ p ∈ R ++ nv, p.1 ≠ V) ∧ (∀ p ∈ nv, p ∈ nv₀ ∨ ∀ q ∈ R, p.1 ≠ q.1)
theorem stepCols {prog : Program} {w : World} {A : Around} {t : Sem Flow} {Q : Flow → Shared → Prop} {E : Value → Shared → Prop} {s : Shared} {g : Heap} {L : Addr} {M : Str → Option Value} (x : Str) (R nv₀ : List (Addr × Obj)) (f : Int → UInt64 × UInt64 × UInt64) (ps : List Int) (_ : Fr g L s.heap M)
    (h1 : ∀ Q' : Flow → Shared → Prop, (∀ h tk, ColPost g L M x R nv₀ f ps h → Q' Flow.next { s with heap := h, toks := tk }) → wpAny (model prog w) A t Q' E s) (h2 : ∀ h tk, ColPost g L M x R nv₀ f ps h → Q .next { s with heap := h, toks := tk }) : wpAny (model prog w) A t Q E s := h1 Q h2
theorem neA {a b : Nat} (h : ¬ @Eq Nat a b) : @Ne Addr a b := h
theorem anyNeg {ps : List Int} {T : Int} (h : 1 ≤ T) : (ps.map (· % T)).any (fun x => x == -1) = false := by
  rw [List.any_eq_false]
  intro x hx
  obtain ⟨p, _, rfl⟩ := List.mem_map.mp hx
  have := Int.emod_nonneg p (show T ≠ 0 by omega)
  simp
  omega
theorem armP_bd {p T : Int} (h : 1 ≤ T) : 0 ≤ armP p T ∧ armP p T < 6 := by
  have h1 := Int.emod_nonneg p (show T ≠ 0 by omega)
  have h2 := Int.emod_lt_of_pos p (show 0 < T by omega)
  unfold armP
  exact ⟨Int.ediv_nonneg (by omega) (by omega), Int.ediv_lt_of_lt_mul (by omega) (by omega)⟩
theorem count6 {ps : List Int} {T : Int} (h : 1 ≤ T) : (ps.map fun p => armP p T).count 6 = 0 := by
  rw [List.count_eq_zero]
  intro hm
  obtain ⟨p, _, e⟩ := List.mem_map.mp hm
  have := (armP_bd (p := p) h).2
  omega
theorem colsArms {h₀ h : Heap} {L V : Addr} {led nv : List (Addr × Obj)} {f : Int → UInt64 × UInt64 × UInt64} {ps : List Int} {vs : List Value} {T : Int} (N : News h₀ L h led) (hV : (V, LCg.lst vs) ∈ led) (hnv : ∀ p ∈ nv, p ∈ led) (hc : ColsN f ps ps.length vs nv) (hl : ps.length ≤ 1000)
    (ha : ∀ (i : Nat) (p : Int), ps[i]? = some p → armFin (f p).1 ∧ armFin (f p).2.1 ∧ armFin (f p).2.2 ∧ armP p T = armI (armX (f p).1) (armX (f p).2.1) (armX (f p).2.2)) :
    h.IsList V vs.toArray ∧ vs.toArray.size ≤ 1000 ∧ (ps.map fun p => armP p T).length = vs.toArray.size ∧ ∀ (i : Nat) v, vs.toArray[i]? = some v → ∃ k, (ps.map fun p => armP p T)[i]? = some k ∧ ColArm h v k := by
  refine ⟨⟨_, (N _ hV).1, rfl, _, rfl⟩, by simp [hc.1, hl], by simp [hc.1], fun i v hv => ?_⟩
  have hv' : vs[i]? = some v := by simpa using hv
  have hi : i < ps.length := by rw [← hc.1]; exact (List.getElem?_eq_some_iff.mp hv').1
  obtain ⟨d, t1, t2, t3, k, h1, h2⟩ := hc.2 i _ hi (List.getElem?_eq_getElem hi)
  rw [hv'] at h1
  cases h1
  have := ha i _ (List.getElem?_eq_getElem hi)
  exact ⟨armP ps[i] T, by simp [List.getElem?_eq_getElem hi], d, _, _, _, t1, t2, t3, k, rfl, (N _ (hnv _ h2)).1, this.1, this.2.1, this.2.2.1, this.2.2.2⟩
theorem fresh2 {h₀ h : Heap} {L d : Addr} {led : List (Addr × Obj)} {o1 o2 : Obj} (N : News h₀ L h led) (m1 : ((65 : Addr), o1) ∈ led) (m2 : ((72 : Addr), o2) ∈ led) (hd : h.get? d = none) : d ≠ 65 ∧ d ≠ 72 := by
  refine ⟨fun e => ?_, fun e => ?_⟩
  · have := (N _ m1).1
    rw [← e, hd] at this; cases this
  · have := (N _ m2).1
    rw [← e, hd] at this; cases this
theorem runsEq (ps : List Int) (T : Int) : (rangeKs 0 6).map (fun k => (((ps.map fun p => armP p T).count k : Nat) : Int)) = ((List.range 6).map fun k : Nat => (ps.map (secP ((6 : Nat) : Int) T)).count (k : Int)).map Int.ofNat := by
  unfold rangeKs
  rw [List.map_map, List.map_map]
  refine List.map_congr_left fun i _ => ?_
  simp only [Function.comp_apply, Int.zero_add]
  rfl
theorem runsEq2 (ps : List Int) (T : Int) (n : Nat) : (List.range n).map (fun i : Nat => (((ps.map (secP (n : Int) T)).count (i : Int) : Nat) : Int)) = ((List.range n).map fun k : Nat => (ps.map (secP (n : Int) T)).count (k : Int)).map Int.ofNat := by
  rw [List.map_map]; rfl
theorem nameK0 {P : Prop} {K : List (Addr × Obj)} (h : ∀ p ∈ K, p.1 ≠ 65 ∧ p.1 ≠ 72) (k : ∀ K0, K = K0 → (∀ p ∈ K0, p.1 ≠ 65 ∧ p.1 ≠ 72) → P) : P := k K rfl h
theorem Mine.Internal.kw6_KlawF : True := by
  k_with "#o6KlawF" => ((fail_if_success (have : First := by assumption)); k_here; refine stopHere ?_)
  k_with "#o7KlawF" => ((fail_if_success (have : First := by assumption)); k_here; refine stopHere ?_)
  k_with "#o8KlawF" => ((fail_if_success (have : First := by assumption)); k_here; refine stopHere ?_)
  k_with "#o9KlawF" => ((fail_if_success (have : First := by assumption)); k_here; k_dflt (refine kun_lenL (News.isList (by k_asm) (by k_mem)) (by assumption) (by omega) ?_))
  k_with "#o10KlawF" => ((fail_if_success (have : First := by assumption)); k_here; refine stopHere ?_)
  trivial
theorem ColsN.mono {f : Int → UInt64 × UInt64 × UInt64} {ps : List Int} {n : Nat} {vs : List Value} {nv nv' : List (Addr × Obj)} (h : ColsN f ps n vs nv) (k : ∀ p ∈ nv, p ∈ nv') : ColsN f ps n vs nv' :=
  ⟨h.1, fun j p hj hp => by obtain ⟨d, a, b, c, k', h1, h2⟩ := h.2 j p hj hp; exact ⟨d, a, b, c, k', h1, k _ h2⟩⟩
theorem Mine.Internal.kw11_KlawF : True := by
  k_with "#o11KlawF" => ((fail_if_success (have : First := by assumption)); k_here; (with_reducible show wpAny _ _ (compareOp _ (Value.ref _) (Value.ref _)) _ _ _); k_dflt (refine inEmpty (by k_asm) (by k_mem) (by k_mem) (by assumption) (by intro p hp; simp only [List.mem_cons, hp, or_true]) (by ktr_units) ?_))
  trivial
theorem colEnd {h₀ h hz : Heap} {L I C D d : Addr} {m : Str → Option Value} {oI oC oD : Obj} {R0 R nv : List (Addr × Obj)} {c : UInt64 × UInt64 × UInt64} {s : Shared} {t1 t2 t3 : Tok} {k tz : Nat} (hR : R0 = R) (F : Fr h₀ L h m) (N : News h₀ L h ((I, oI) :: (C, oC) :: (D, oD) :: (R0 ++ nv))) (kp : Keep h hz) (dn : h.get? d = none) (dg : hz.get? d = some (col3 c t1 t2 t3 k)) :
    ColEnd h₀ L m ((I, oI) :: (C, oC) :: (D, oD) :: (R ++ nv)) c s (.ref d) { s with heap := hz, toks := tz } := by
  subst hR
  exact ⟨d, t1, t2, t3, k, hz, tz, rfl, rfl, frKeep F kp, newsKeep1 F N kp dn dg, fun p hp e => by have := (N p hp).1; rw [e, dn] at this; cases this⟩
noncomputable def law_walk_k : Σ' (P1 : World → Shared → Shared → (Str → Option Value) → (Str → Option Value) → Addr → Obj → Value → Value → Value → (List Int) → (List Addr) → (List Addr) → Addr → (List Value) → (List Addr) → Heap → Nat → Obj → Obj → Obj → Obj → Obj → Obj → Obj → Obj → (Flow → Shared → Prop) → Prop), Σ' (P2 : World → Shared → Shared → (Str → Option Value) → (Str → Option Value) → Addr → Obj → Value → Value → Value → (List Int) → (List Addr) → (List Addr) → Addr → (List Value) → (List Addr) → Heap → Nat → Obj → Obj → Obj → Obj → Obj → Obj → Obj → Obj → Heap → Nat → Nat → Nat → Int → Int → Int → Int → (Str → Option Value) → Addr → (List Value) → Obj → Obj → Obj → Obj → Obj → Obj → Obj → Obj → Tok → Tok → Tok → Tok → Tok → Tok → Tok → Int → Int → Prop), (∀ wzz0y1 szz0y2 szz0y3 mgzz0y4 mbzz0y5 fazz0y8 ozz0y9 pmzz0y10 cdzz0y11 doczz0y12 wzz0y22 wzz0y28 wzz0y29 wzz0y30 wzz0y31 wzz0y32 hzz0y42 tkzz0y43 wzz0y44 wzz0y45 wzz0y46 wzz0y47 wzz0y48 wzz0y49 wzz0y50 wzz0y51 Q1, P1 wzz0y1 szz0y2 szz0y3 mgzz0y4 mbzz0y5 fazz0y8 ozz0y9 pmzz0y10 cdzz0y11 doczz0y12 wzz0y22 wzz0y28 wzz0y29 wzz0y30 wzz0y31 wzz0y32 hzz0y42 tkzz0y43 wzz0y44 wzz0y45 wzz0y46 wzz0y47 wzz0y48 wzz0y49 wzz0y50 wzz0y51 Q1) → (∀ wzz0y1 szz0y2 szz0y3 mgzz0y4 mbzz0y5 fazz0y8 ozz0y9 pmzz0y10 cdzz0y11 doczz0y12 wzz0y22 wzz0y28 wzz0y29 wzz0y30 wzz0y31 wzz0y32 hzz0y42 tkzz0y43 wzz0y44 wzz0y45 wzz0y46 wzz0y47 wzz0y48 wzz0y49 wzz0y50 wzz0y51 h tk hN sN b sh lv lt Mr D pys o1 o2 o3 o4 o5 o6 o7 o8 u1 u2 u3 u4 u5 u6 u7 x1 T, P2 wzz0y1 szz0y2 szz0y3 mgzz0y4 mbzz0y5 fazz0y8 ozz0y9 pmzz0y10 cdzz0y11 doczz0y12 wzz0y22 wzz0y28 wzz0y29 wzz0y30 wzz0y31 wzz0y32 hzz0y42 tkzz0y43 wzz0y44 wzz0y45 wzz0y46 wzz0y47 wzz0y48 wzz0y49 wzz0y50 wzz0y51 h tk hN sN b sh lv lt Mr D pys o1 o2 o3 o4 o5 o6 o7 o8 u1 u2 u3 u4 u5 u6 u7 x1 T) → hd.2.1 := ⟨_, _, by
  intro hP_1 hP_2 
  delta hd
  dsimp only
  w_on
  k_go0
  (all_goals try k_fold)
  (with_reducible rename Fr _ _ _ _ => zF)
  rename_i wzz0y1 szz0y2 szz0y3 mgzz0y4 mbzz0y5 Gzz0y6 Yzz0y7 fazz0y8 ozz0y9 pmzz0y10 cdzz0y11 doczz0y12 hozz0y13 hcdzz0y14 hgzz0y15 Xzz0y16 Vzz0y17 Tzz0y18 Bzz0y19 TEzz0y20 TWzz0y21 wzz0y22 hszz0y23 hlayzz0y24 hLzz0y25 hrzz0y26 hlzz0y27 wzz0y28 wzz0y29 wzz0y30 wzz0y31 wzz0y32 hLzz0y33 razz0y34 wzz0y35 rzz0y36 hIzz0y37 hrzz0y38 hcondzz0y39 hcondzz0y40 hDzz0y41 hzz0y42 tkzz0y43 wzz0y44 wzz0y45 wzz0y46 wzz0y47 wzz0y48 wzz0y49 wzz0y50 wzz0y51 leftzz0y52 leftzz0y53 leftzz0y54 leftzz0y55 leftzz0y56 leftzz0y57 leftzz0y58 rightzz0y59 Xzz0y60 Xzz0y61 Tzz0y62 Kzz0y63 codeHdzz0y64 Nzz0y65 lzz0y66; revert Gzz0y6 Yzz0y7 hozz0y13 hcdzz0y14 hgzz0y15 hT8 Xzz0y16 Vzz0y17 Tzz0y18 Bzz0y19 TEzz0y20 TWzz0y21 hT9 hszz0y23 hlayzz0y24 hLzz0y25 hLzz0y33 razz0y34 wzz0y35 rzz0y36 hIzz0y37 hrzz0y38 hcondzz0y39 hDzz0y41 leftzz0y52 leftzz0y53 leftzz0y54 leftzz0y55 leftzz0y56 leftzz0y57 leftzz0y58 rightzz0y59 Xzz0y60 Xzz0y61 Tzz0y62 Kzz0y63 zF lifted codeHdzz0y64 codeHd Nzz0y65 lzz0y66; revert wzz0y1 szz0y2 szz0y3 mgzz0y4 mbzz0y5 fazz0y8 ozz0y9 pmzz0y10 cdzz0y11 doczz0y12 wzz0y22 wzz0y28 wzz0y29 wzz0y30 wzz0y31 wzz0y32 hzz0y42 tkzz0y43 wzz0y44 wzz0y45 wzz0y46 wzz0y47 wzz0y48 wzz0y49 wzz0y50 wzz0y51; refine (sk26 (P := ?Pzz) ?dzz ((?fzz : ∀ a b c d e f g h i j k l m n o p q r s t u v w x y z, ?Pzz a b c d e f g h i j k l m n o p q r s t u v w x y z) _ _ _ _ _ _ _ _ _ _ _ _ _ _ _ _ _ _ _ _ _ _ _ _ _ _) : _); (case dzz => walk_at "#d"); intro wzz0y1 szz0y2 szz0y3 mgzz0y4 mbzz0y5 fazz0y8 ozz0y9 pmzz0y10 cdzz0y11 doczz0y12 wzz0y22 wzz0y28 wzz0y29 wzz0y30 wzz0y31 wzz0y32 hzz0y42 tkzz0y43 wzz0y44 wzz0y45 wzz0y46 wzz0y47 wzz0y48 wzz0y49 wzz0y50 wzz0y51 Gzz0y6 Yzz0y7 hozz0y13 hcdzz0y14 hgzz0y15 hT8 Xzz0y16 Vzz0y17 Tzz0y18 Bzz0y19 TEzz0y20 TWzz0y21 hT9 hszz0y23 hlayzz0y24 hLzz0y25 hLzz0y33 razz0y34 wzz0y35 rzz0y36 hIzz0y37 hrzz0y38 hcondzz0y39 hDzz0y41 leftzz0y52 leftzz0y53 leftzz0y54 leftzz0y55 leftzz0y56 leftzz0y57 leftzz0y58 rightzz0y59 Xzz0y60 Xzz0y61 Tzz0y62 Kzz0y63 zF lifted codeHdzz0y64 codeHd Nzz0y65 lzz0y66
  refine lawCut zF ?first ?rest
  case first =>
    intro Q1 hQ
    have hfirst : First := trivial
    dsimp only [List.take]
    revert Gzz0y6 Yzz0y7 hozz0y13 hcdzz0y14 hgzz0y15 hT8 Xzz0y16 Vzz0y17 Tzz0y18 Bzz0y19 TEzz0y20 TWzz0y21 hT9 hszz0y23 hlayzz0y24 hLzz0y25 hrzz0y26 hlzz0y27 hLzz0y33 razz0y34 wzz0y35 rzz0y36 hIzz0y37 hrzz0y38 hcondzz0y39 hcondzz0y40 hDzz0y41 leftzz0y52 leftzz0y53 leftzz0y54 leftzz0y55 leftzz0y56 leftzz0y57 leftzz0y58 rightzz0y59 Xzz0y60 Xzz0y61 Tzz0y62 Kzz0y63 zF lifted codeHdzz0y64 codeHd Nzz0y65 lzz0y66 hQ hfirst
    exact hP_1 wzz0y1 szz0y2 szz0y3 mgzz0y4 mbzz0y5 fazz0y8 ozz0y9 pmzz0y10 cdzz0y11 doczz0y12 wzz0y22 wzz0y28 wzz0y29 wzz0y30 wzz0y31 wzz0y32 hzz0y42 tkzz0y43 wzz0y44 wzz0y45 wzz0y46 wzz0y47 wzz0y48 wzz0y49 wzz0y50 wzz0y51 Q1
  case rest =>
    have hunp : Unp := trivial
    clear zF
    (with_reducible rename News _ _ _ _ => zN)
    clear zN
    intro h tk hP
    obtain ⟨hN, sN, b, sh, lv, lt, se, Mr, D, pys, o1, o2, o3, o4, o5, o6, o7, o8, u1, u2, u3, u4, u5, u6, u7, x1, hP⟩ := hP
    obtain ⟨dr, F, N, hpy, d1, d2, d3, d4, d5, d6, d7, d8, hDn⟩ := hP
    have hT := turn_bd dr.s.1 dr.s.2 dr.h.1 dr.h.2
    have hpb := fun (i : Nat) (p : Int) (hp : (placesL hN sN b)[i]? = some p) => place_bd hp dr.b.1 dr.b.2 dr.s.1 dr.s.2 dr.h.1 dr.h.2
    have hpl := placesL_len hN sN b
    have hplen : pys.length = hN := by have := hpy.length; omega
    have hsz : pys.toArray.size ≤ sizeLine := by rw [sizeLine_eq]; have := dr.h.2; simp; omega
    generalize hTT : (hN : Int) * (sN : Int) = T at *
    revert Gzz0y6 Yzz0y7 hozz0y13 hcdzz0y14 hgzz0y15 hT8 Xzz0y16 Vzz0y17 Tzz0y18 Bzz0y19 TEzz0y20 TWzz0y21 hT9 hszz0y23 hlayzz0y24 hLzz0y25 hrzz0y26 hlzz0y27 hLzz0y33 razz0y34 wzz0y35 rzz0y36 hIzz0y37 hrzz0y38 hcondzz0y39 hcondzz0y40 hDzz0y41 leftzz0y52 leftzz0y53 leftzz0y54 leftzz0y55 leftzz0y56 leftzz0y57 leftzz0y58 rightzz0y59 Xzz0y60 Xzz0y61 Tzz0y62 Kzz0y63 lifted codeHdzz0y64 codeHd lzz0y66 hunp se dr F N hpy d1 d2 d4 d5 d6 d7 d8 hDn hpl hplen hsz hTT d3 hT hpb
    exact hP_2 wzz0y1 szz0y2 szz0y3 mgzz0y4 mbzz0y5 fazz0y8 ozz0y9 pmzz0y10 cdzz0y11 doczz0y12 wzz0y22 wzz0y28 wzz0y29 wzz0y30 wzz0y31 wzz0y32 hzz0y42 tkzz0y43 wzz0y44 wzz0y45 wzz0y46 wzz0y47 wzz0y48 wzz0y49 wzz0y50 wzz0y51 h tk hN sN b sh lv lt Mr D pys o1 o2 o3 o4 o5 o6 o7 o8 u1 u2 u3 u4 u5 u6 u7 x1 T⟩
noncomputable def law_walk_R1 (z : Sk × (Flow → Shared → Prop)) : Prop := law_walk_k.1 (z.1.w 0) (z.1.s 0) (z.1.s 1) (z.1.m 0) (z.1.m 1) (z.1.a 0) (z.1.o 0) (z.1.v 0) (z.1.v 1) (z.1.v 2) (z.1.li 0) (z.1.la 0) (z.1.la 1) (z.1.a 1) (z.1.lv 0) (z.1.la 2) (z.1.h 0) (z.1.n 0) (z.1.o 1) (z.1.o 2) (z.1.o 3) (z.1.o 4) (z.1.o 5) (z.1.o 6) (z.1.o 7) (z.1.o 8) z.2
noncomputable def law_walk_z1 : Sk × (Flow → Shared → Prop) := skd (dS, (fun _ _ => True)) law_walk_R1
namespace law_walk_c1
theorem r1 : law_walk_k.1 (law_walk_z1.1.w 0) (law_walk_z1.1.s 0) (law_walk_z1.1.s 1) (law_walk_z1.1.m 0) (law_walk_z1.1.m 1) (law_walk_z1.1.a 0) (law_walk_z1.1.o 0) (law_walk_z1.1.v 0) (law_walk_z1.1.v 1) (law_walk_z1.1.v 2) (law_walk_z1.1.li 0) (law_walk_z1.1.la 0) (law_walk_z1.1.la 1) (law_walk_z1.1.a 1) (law_walk_z1.1.lv 0) (law_walk_z1.1.la 2) (law_walk_z1.1.h 0) (law_walk_z1.1.n 0) (law_walk_z1.1.o 1) (law_walk_z1.1.o 2) (law_walk_z1.1.o 3) (law_walk_z1.1.o 4) (law_walk_z1.1.o 5) (law_walk_z1.1.o 6) (law_walk_z1.1.o 7) (law_walk_z1.1.o 8) law_walk_z1.2 := by
  intro Gzz0y6 Yzz0y7 hozz0y13 hcdzz0y14 hgzz0y15 hT8 Xzz0y16 Vzz0y17 Tzz0y18 Bzz0y19 TEzz0y20 TWzz0y21 hT9 hszz0y23 hlayzz0y24 hLzz0y25 hrzz0y26 hlzz0y27 hLzz0y33 razz0y34 wzz0y35 rzz0y36 hIzz0y37 hrzz0y38 hcondzz0y39 hcondzz0y40 hDzz0y41 leftzz0y52 leftzz0y53 leftzz0y54 leftzz0y55 leftzz0y56 leftzz0y57 leftzz0y58 rightzz0y59 Xzz0y60 Xzz0y61 Tzz0y62 Kzz0y63 zF lifted codeHdzz0y64 codeHd Nzz0y65 lzz0y66 hQ hfirst
  
  k_steps
  rename_i hI5 _
  obtain ⟨a1, a2, a3, a4, a5, he5, hb1, hb2, hb3, hb4, hb5⟩ := five _
  rw [he5] at hI5
  obtain ⟨u1, u2, u3, u4, u5, rfl⟩ := ints5 hI5
  have hunp : Unp := trivial
  unfold Stop
  rename_i zb1 zb2 zb3 zb4 zb5 zb6 zb7 zb8 zb9 zb10 zb11 zb12 zb13 zb14 zb15 zb16 zb17 zb18 zb19 zb20 zb21 zb22 zb23 zb24 zb25 zb26 zb27 zb28 zb29 zb30; revert zb4 zb7 zb8 zb10 zb11 zb15 zb18 zb22 zb23 zb28 zb29 he5 hb1 hb2 hb3 hb4 hb5 zb30 hI5; revert zb1 zb2 zb3 zb9 ys zb12 zb13 zb14 zb16 zb17 zb19 zb20 zb21 zb26 zb27 a1 a2 a3 a4 a5 u1 u2 u3 u4 u5; refine (sk25 (P := ?Pzb) ?dzb ((?fzb : ∀ a b c d e f g h i j k l m n o p q r s t u v w x y, ?Pzb a b c d e f g h i j k l m n o p q r s t u v w x y) _ _ _ _ _ _ _ _ _ _ _ _ _ _ _ _ _ _ _ _ _ _ _ _ _) : _); (case dzb => walk_at "#d"); intro zb1 zb2 zb3 zb9 ys zb12 zb13 zb14 zb16 zb17 zb19 zb20 zb21 zb26 zb27 a1 a2 a3 a4 a5 u1 u2 u3 u4 u5 zb4 zb7 zb8 zb10 zb11 zb15 zb18 zb22 zb23 zb28 zb29 he5 hb1 hb2 hb3 hb4 hb5 zb30 hI5
  k_steps
  rename_i o1
  (with_reducible rename Fr _ _ _ _ => zF)
  (with_reducible rename News _ _ _ _ => zN)
  obtain ⟨-, -, -, -, -, h8, -, -, -, -, -, -, -, h72, h65⟩ := o1
  refine hQ _ _ ?_
  refine' mkLaw (a1 := a1) (a2 := a2) (a3 := a3) (a4 := a4) (a5 := a5) ⟨hb1.1, hb2.1⟩ zF (pick11 zN) ?y0 ?y1 ?y2 ?y3 ?y4 ?y5 ?y6 ?y7 ?y8 ⟨Ne.symm h65, Ne.symm h72, Ne.symm h8⟩
  case y1 => assumption
  case y2 => assumption
  case y3 => assumption
  case y4 => assumption
  case y5 => assumption
  case y6 => assumption
  case y7 => assumption
  case y8 => assumption
  case y0 => assumption
end law_walk_c1
noncomputable def law_walk_R2 (z : Sk) : Prop := law_walk_k.2.1 (z.w 0) (z.s 0) (z.s 1) (z.m 0) (z.m 1) (z.a 0) (z.o 0) (z.v 0) (z.v 1) (z.v 2) (z.li 0) (z.la 0) (z.la 1) (z.a 1) (z.lv 0) (z.la 2) (z.h 0) (z.n 0) (z.o 1) (z.o 2) (z.o 3) (z.o 4) (z.o 5) (z.o 6) (z.o 7) (z.o 8) (z.h 1) (z.n 1) (z.n 2) (z.n 3) (z.i 0) (z.i 1) (z.i 2) (z.i 3) (z.m 2) (z.a 2) (z.lv 1) (z.o 9) (z.o 10) (z.o 11) (z.o 12) (z.o 13) (z.o 14) (z.o 15) (z.o 16) (z.t 0) (z.t 1) (z.t 2) (z.t 3) (z.t 4) (z.t 5) (z.t 6) (z.i 4) (z.i 5)
namespace law_walk_c2
def h := (skv law_walk_R2).h 1
def tk := (skv law_walk_R2).n 1
def hN := (skv law_walk_R2).n 2
def sN := (skv law_walk_R2).n 3
def b := (skv law_walk_R2).i 0
def sh := (skv law_walk_R2).i 1
def lv := (skv law_walk_R2).i 2
def lt := (skv law_walk_R2).i 3
def D := (skv law_walk_R2).a 2
def pys := (skv law_walk_R2).lv 1
def o3 := (skv law_walk_R2).o 11
def o5 := (skv law_walk_R2).o 13
def T := (skv law_walk_R2).i 5
noncomputable def r2_k : Σ' (P1 : Int → (List (Addr × Obj)) → (Flow → Shared → Prop) → Heap → Nat → Int → Tok → Addr → Obj → Addr → Obj → Addr → (Str → Option Value) → Heap → Nat → (List (Addr × Obj)) → (List Value) → (Value → Shared → Prop) → Prop), Σ' (P2 : (List (Addr × Obj)) → Heap → Nat → Addr → (List Value) → (List (Addr × Obj)) → Prop), (∀ se R Q1 g' i p t I oI C oC D2 m₂ h2 tk2 nv ys E', P1 se R Q1 g' i p t I oI C oC D2 m₂ h2 tk2 nv ys E') → (∀ R h tk V vs nv, P2 R h tk V vs nv) → law_walk_k.2.1 ((skv law_walk_R2).w 0) ((skv law_walk_R2).s 0) ((skv law_walk_R2).s 1) ((skv law_walk_R2).m 0) ((skv law_walk_R2).m 1) ((skv law_walk_R2).a 0) ((skv law_walk_R2).o 0) ((skv law_walk_R2).v 0) ((skv law_walk_R2).v 1) ((skv law_walk_R2).v 2) ((skv law_walk_R2).li 0) ((skv law_walk_R2).la 0) ((skv law_walk_R2).la 1) ((skv law_walk_R2).a 1) ((skv law_walk_R2).lv 0) ((skv law_walk_R2).la 2) ((skv law_walk_R2).h 0) ((skv law_walk_R2).n 0) ((skv law_walk_R2).o 1) ((skv law_walk_R2).o 2) ((skv law_walk_R2).o 3) ((skv law_walk_R2).o 4) ((skv law_walk_R2).o 5) ((skv law_walk_R2).o 6) ((skv law_walk_R2).o 7) ((skv law_walk_R2).o 8) h tk hN sN b sh lv lt ((skv law_walk_R2).m 2) D pys ((skv law_walk_R2).o 9) ((skv law_walk_R2).o 10) o3 ((skv law_walk_R2).o 12) o5 ((skv law_walk_R2).o 14) ((skv law_walk_R2).o 15) ((skv law_walk_R2).o 16) ((skv law_walk_R2).t 0) ((skv law_walk_R2).t 1) ((skv law_walk_R2).t 2) ((skv law_walk_R2).t 3) ((skv law_walk_R2).t 4) ((skv law_walk_R2).t 5) ((skv law_walk_R2).t 6) ((skv law_walk_R2).i 4) T := ⟨_, _, by
  intro hP_1 hP_2 
  intro Gzz0y6 Yzz0y7 hozz0y13 hcdzz0y14 hgzz0y15 hT8 Xzz0y16 Vzz0y17 Tzz0y18 Bzz0y19 TEzz0y20 TWzz0y21 hT9 hszz0y23 hlayzz0y24 hLzz0y25 hrzz0y26 hlzz0y27 hLzz0y33 razz0y34 wzz0y35 rzz0y36 hIzz0y37 hrzz0y38 hcondzz0y39 hcondzz0y40 hDzz0y41 leftzz0y52 leftzz0y53 leftzz0y54 leftzz0y55 leftzz0y56 leftzz0y57 leftzz0y58 rightzz0y59 Xzz0y60 Xzz0y61 Tzz0y62 Kzz0y63 lifted codeHdzz0y64 codeHd lzz0y65 hunp se dr F N hpy d1 d2 d4 d5 d6 d7 d8 hDn hpl hplen hsz hTT d3 hT hpb
  dsimp only [List.drop]
  k_steps
  unfold Stop
  refine nameAll2 N (fun R hR NR => ?_)
  refine stepCols (Str.ofString "values") R [] (fHsv T sh lv) (placesL hN sN b) F ?v1 ?v2
  case v1 =>
    intro Q1 hQ
    replace NR := newsNil NR
    have hDR : ∀ nv, (D, LCg.lst pys) ∈ R ++ nv := fun nv => List.mem_append_left _ (by rw [← hR]; exact .head _)
    k_here
    k_dflt (refine LCg.Assign_ListComp_U (F₀ := by k_asm) (by rfl) (by with_unfolding_all rfl) (by with_unfolding_all rfl) (by decide) (by rfl) (by decide) (by rfl) (by rfl) (by rfl) ?_)
    k_steps
    unfold Stop
    refine LCg.CompSrc.ledger (by rfl) F NR (hDR []) hsz ?_
    intro g'
    refine compCols (fHsv T sh lv) (placesL hN sN b) R [] (by simp [hplen, hpl]) hpy (fun nv => .inr ⟨_, hDR nv, rfl, _, rfl⟩) ?_ ?_
    · intro i p t I oI C oC D2 m₂ h2 tk2 nv ys E' hp hC hx F2 N2 ne
      have hpp := hpb i p hp
      have hok := hsv_ok (sh := sh) (lv := lv) dr.sh.1 dr.sh.2 dr.lv.1 dr.lv.2 hT.1 hT.2 hpp.1 hpp.2.1
      rw [← hR] at N2
      simp only [List.cons_append, List.nil_append] at N2
      clear N NR
      revert Gzz0y6 Yzz0y7 hozz0y13 hcdzz0y14 hgzz0y15 hT8 Xzz0y16 Vzz0y17 Tzz0y18 Bzz0y19 TEzz0y20 TWzz0y21 hT9 hszz0y23 hlayzz0y24 hLzz0y25 hrzz0y26 hlzz0y27 hLzz0y33 razz0y34 wzz0y35 rzz0y36 hIzz0y37 hrzz0y38 hcondzz0y39 hcondzz0y40 hDzz0y41 leftzz0y52 leftzz0y53 leftzz0y54 leftzz0y55 leftzz0y56 leftzz0y57 leftzz0y58 rightzz0y59 Xzz0y60 Xzz0y61 Tzz0y62 Kzz0y63 lifted codeHdzz0y64 codeHd lzz0y65 hunp dr F hpy d1 d2 d4 d5 d6 d7 d8 hDn hpl hplen hsz hTT d3 hT hpb hR hQ hDR hp hC hx F2 N2 ne hpp hok
      exact hP_1 se R Q1 g' i p t I oI C oC D2 m₂ h2 tk2 nv ys E'
    · intro ys nv hsub hoff hc D3 h3 tk3 F3 N3 o3
      exact hQ _ _ ⟨D3, ys, nv, F3, N3, hsub, hc, off1_mem o3, hoff⟩
  case v2 =>
    clear N NR
    intro h tk hP
    obtain ⟨V, vs, nv, F, N, -, hcv, hoV, hon⟩ := hP
    rename_i Fzz3y1
    revert Gzz0y6 Yzz0y7 hozz0y13 hcdzz0y14 hgzz0y15 hT8 Xzz0y16 Vzz0y17 Tzz0y18 Bzz0y19 TEzz0y20 TWzz0y21 hT9 hszz0y23 hlayzz0y24 hLzz0y25 hrzz0y26 hlzz0y27 hLzz0y33 razz0y34 wzz0y35 rzz0y36 hIzz0y37 hrzz0y38 hcondzz0y39 hcondzz0y40 hDzz0y41 leftzz0y52 leftzz0y53 leftzz0y54 leftzz0y55 leftzz0y56 leftzz0y57 leftzz0y58 rightzz0y59 Xzz0y60 Xzz0y61 Tzz0y62 Kzz0y63 lifted codeHdzz0y64 codeHd lzz0y65 hunp se dr Fzz3y1 hpy d1 d2 d4 d5 d6 d7 d8 hDn hpl hplen hsz hTT d3 hT hpb hR F N hcv hoV hon
    exact hP_2 R h tk V vs nv⟩
noncomputable def r2_R1 (z : Sk × (Flow → Shared → Prop)) : Prop := r2_k.1 (z.1.i 0) (z.1.ao 0) z.2 (z.1.h 0) (z.1.n 0) (z.1.i 1) (z.1.t 0) (z.1.a 0) (z.1.o 0) (z.1.a 1) (z.1.o 1) (z.1.a 2) (z.1.m 0) (z.1.h 1) (z.1.n 1) (z.1.ao 1) (z.1.lv 0) (z.1.q 0)
noncomputable def r2_z1 : Sk × (Flow → Shared → Prop) := skd (dS, (fun _ _ => True)) r2_R1
namespace r2_c1
def p := r2_z1.1.i 1
theorem r4 : r2_k.1 (r2_z1.1.i 0) (r2_z1.1.ao 0) r2_z1.2 (r2_z1.1.h 0) (r2_z1.1.n 0) p (r2_z1.1.t 0) (r2_z1.1.a 0) (r2_z1.1.o 0) (r2_z1.1.a 1) (r2_z1.1.o 1) (r2_z1.1.a 2) (r2_z1.1.m 0) (r2_z1.1.h 1) (r2_z1.1.n 1) (r2_z1.1.ao 1) (r2_z1.1.lv 0) (r2_z1.1.q 0) := by
  intro Gzz0y6 Yzz0y7 hozz0y13 hcdzz0y14 hgzz0y15 hT8 Xzz0y16 Vzz0y17 Tzz0y18 Bzz0y19 TEzz0y20 TWzz0y21 hT9 hszz0y23 hlayzz0y24 hLzz0y25 hrzz0y26 hlzz0y27 hLzz0y33 razz0y34 wzz0y35 rzz0y36 hIzz0y37 hrzz0y38 hcondzz0y39 hcondzz0y40 hDzz0y41 leftzz0y52 leftzz0y53 leftzz0y54 leftzz0y55 leftzz0y56 leftzz0y57 leftzz0y58 rightzz0y59 Xzz0y60 Xzz0y61 Tzz0y62 Kzz0y63 lifted codeHdzz0y64 codeHd lzz0y65 hunp dr F hpy d1 d2 d4 d5 d6 d7 d8 hDn hpl hplen hsz hTT d3 hT hpb hR hQ hDR hp hC hx F2 N2 ne hpp hok
  k_steps
  unfold Stop
  (with_reducible rename Fr _ _ _ _ => zF)
  (with_reducible rename News _ _ _ _ => zN)
  k_dflt (refine' lhsv_spec _ p T sh lv _ _ _ _ _ _ _ _ _ _ _ _ _ _ _ _ _ _ _ _ _ _ _ _ ?k1 ?k2 ?k3 ?k5 ?k6 ?k8 ?k9 ?k10 ?_; (case k1 => k_asm); (case k2 => k_asm); (case k3 => k_asm); (case k5 => k_asm); (case k6 => exact rfl); (case k8 => exact hok); (case k9 => ktr_room); (case k10 => ktr_units); k_whole)
  intro d9 ta tb tc n9 hz tz kp dn dg
  exact colEnd hR zF zN kp dn dg
end r2_c1
noncomputable def r2_R2 (z : Sk) : Prop := r2_k.2.1 (z.ao 0) (z.h 0) (z.n 0) (z.a 0) (z.lv 0) (z.ao 1)
namespace r2_c2
def R := (skv r2_R2).ao 0
def h := (skv r2_R2).h 0
def tk := (skv r2_R2).n 0
def V := (skv r2_R2).a 0
def vs := (skv r2_R2).lv 0
def nv := (skv r2_R2).ao 1
noncomputable def r5_k : Σ' (P1 : Int → (Flow → Shared → Prop) → Heap → Nat → Int → Tok → Addr → Obj → Addr → Obj → Addr → (Str → Option Value) → Heap → Nat → (List (Addr × Obj)) → (List Value) → (Value → Shared → Prop) → Prop), Σ' (P2 : Heap → Nat → Addr → (List Value) → (List (Addr × Obj)) → Prop), (∀ se Q1 g' i p t I oI C oC D2 m₂ h2 tk2 nv2 ys E', P1 se Q1 g' i p t I oI C oC D2 m₂ h2 tk2 nv2 ys E') → (∀ h tk Wl ws nv2, P2 h tk Wl ws nv2) → r2_k.2.1 R h tk V vs nv := ⟨_, _, by
  intro hP_1 hP_2 
  intro Gzz0y6 Yzz0y7 hozz0y13 hcdzz0y14 hgzz0y15 hT8 Xzz0y16 Vzz0y17 Tzz0y18 Bzz0y19 TEzz0y20 TWzz0y21 hT9 hszz0y23 hlayzz0y24 hLzz0y25 hrzz0y26 hlzz0y27 hLzz0y33 razz0y34 wzz0y35 rzz0y36 hIzz0y37 hrzz0y38 hcondzz0y39 hcondzz0y40 hDzz0y41 leftzz0y52 leftzz0y53 leftzz0y54 leftzz0y55 leftzz0y56 leftzz0y57 leftzz0y58 rightzz0y59 Xzz0y60 Xzz0y61 Tzz0y62 Kzz0y63 lifted codeHdzz0y64 codeHd lzz0y65 hunp se dr Fzz3y1 hpy d1 d2 d4 d5 d6 d7 d8 hDn hpl hplen hsz hTT d3 hT hpb hR F N hcv hoV hon
  k_steps
  unfold Stop
  refine stepCols (Str.ofString "lights") ((V, LCg.lst vs) :: R) nv (fHls T sh lt) (placesL hN sN b) F ?l1 ?l2
  case l1 =>
    intro Q1 hQ
    have hDR : ∀ nv, (D, LCg.lst pys) ∈ ((V, LCg.lst vs) :: R) ++ nv := fun nv => .tail _ (List.mem_append_left _ (by rw [← hR]; exact .head _))
    k_here
    k_dflt (refine LCg.Assign_ListComp_U (F₀ := by k_asm) (by rfl) (by with_unfolding_all rfl) (by with_unfolding_all rfl) (by decide) (by rfl) (by decide) (by rfl) (by rfl) (by rfl) ?_)
    k_steps
    unfold Stop
    refine LCg.CompSrc.ledger (by rfl) F N (hDR nv) hsz ?_
    intro g'
    refine compCols (fHls T sh lt) (placesL hN sN b) ((V, LCg.lst vs) :: R) nv (by simp [hplen, hpl]) hpy (fun nv => .inr ⟨_, hDR nv, rfl, _, rfl⟩) ?_ ?_
    · intro i p t I oI C oC D2 m₂ h2 tk2 nv2 ys E' hp hC hx F2 N2 ne
      have hpp := hpb i p hp
      have hok := hls_ok (sh := sh) (lt := lt) (p := p) dr.sh.1 dr.sh.2 dr.lt.1 dr.lt.2 hT.1 hT.2 (by omega) (by omega)
      rw [← hR] at N2
      simp only [List.cons_append, List.nil_append] at N2
      clear N
      revert Gzz0y6 Yzz0y7 hozz0y13 hcdzz0y14 hgzz0y15 hT8 Xzz0y16 Vzz0y17 Tzz0y18 Bzz0y19 TEzz0y20 TWzz0y21 hT9 hszz0y23 hlayzz0y24 hLzz0y25 hrzz0y26 hlzz0y27 hLzz0y33 razz0y34 wzz0y35 rzz0y36 hIzz0y37 hrzz0y38 hcondzz0y39 hcondzz0y40 hDzz0y41 leftzz0y52 leftzz0y53 leftzz0y54 leftzz0y55 leftzz0y56 leftzz0y57 leftzz0y58 rightzz0y59 Xzz0y60 Xzz0y61 Tzz0y62 Kzz0y63 lifted codeHdzz0y64 codeHd lzz0y65 hunp dr Fzz3y1 hpy d1 d2 d4 d5 d6 d7 d8 hDn hpl hplen hsz hTT d3 hT hpb hR F hcv hoV hon hQ hDR hp hC hx F2 N2 ne hpp hok
      exact hP_1 se Q1 g' i p t I oI C oC D2 m₂ h2 tk2 nv2 ys E'
    · intro ys nv2 hsub hoff hc D3 h3 tk3 F3 N3 o3
      exact hQ _ _ ⟨D3, ys, nv2, F3, N3, hsub, hc, off1_mem o3, hoff⟩
  case l2 =>
    clear N
    intro h tk hP
    obtain ⟨Wl, ws, nv2, F, N, hsub, hcw, hoW, hon2⟩ := hP
    replace hcv := hcv.mono hsub
    clear hsub
    have hK0 := k0_off (oW := LCg.lst ws) (by assumption) hDn hR hoV hoW hon hon2
    have hK8 := k8_off (oW := LCg.lst ws) (by assumption) hDn hR hoV hoW hon hon2
    have N0 := N
    rw [← hR] at N0
    simp only [List.cons_append, List.nil_append] at N0
    clear N hoV hoW hon hon2 hR
    have hwl : ws.length = hN := by rw [hcw.1, hpl]
    have hh1 := dr.h.1
    have hh2 := dr.h.2
    rename_i Fzz5y1
    revert Gzz0y6 Yzz0y7 hozz0y13 hcdzz0y14 hgzz0y15 hT8 Xzz0y16 Vzz0y17 Tzz0y18 Bzz0y19 TEzz0y20 TWzz0y21 hT9 hszz0y23 hlayzz0y24 hLzz0y25 hrzz0y26 hlzz0y27 hLzz0y33 razz0y34 wzz0y35 rzz0y36 hIzz0y37 hrzz0y38 hcondzz0y39 hcondzz0y40 hDzz0y41 leftzz0y52 leftzz0y53 leftzz0y54 leftzz0y55 leftzz0y56 leftzz0y57 leftzz0y58 rightzz0y59 Xzz0y60 Xzz0y61 Tzz0y62 Kzz0y63 lifted codeHdzz0y64 codeHd lzz0y65 hunp se dr Fzz3y1 hpy d1 d2 d4 d5 d6 d7 d8 hDn hpl hplen hsz hTT d3 hT hpb Fzz5y1 F hcw hcv hK0 hK8 N0 hwl hh1 hh2
    exact hP_2 h tk Wl ws nv2⟩
noncomputable def r5_R1 (z : Sk × (Flow → Shared → Prop)) : Prop := r5_k.1 (z.1.i 0) z.2 (z.1.h 0) (z.1.n 0) (z.1.i 1) (z.1.t 0) (z.1.a 0) (z.1.o 0) (z.1.a 1) (z.1.o 1) (z.1.a 2) (z.1.m 0) (z.1.h 1) (z.1.n 1) (z.1.ao 0) (z.1.lv 0) (z.1.q 0)
noncomputable def r5_z1 : Sk × (Flow → Shared → Prop) := skd (dS, (fun _ _ => True)) r5_R1
namespace r5_c1
def p := r5_z1.1.i 1
theorem r6 : r5_k.1 (r5_z1.1.i 0) r5_z1.2 (r5_z1.1.h 0) (r5_z1.1.n 0) p (r5_z1.1.t 0) (r5_z1.1.a 0) (r5_z1.1.o 0) (r5_z1.1.a 1) (r5_z1.1.o 1) (r5_z1.1.a 2) (r5_z1.1.m 0) (r5_z1.1.h 1) (r5_z1.1.n 1) (r5_z1.1.ao 0) (r5_z1.1.lv 0) (r5_z1.1.q 0) := by
  intro Gzz0y6 Yzz0y7 hozz0y13 hcdzz0y14 hgzz0y15 hT8 Xzz0y16 Vzz0y17 Tzz0y18 Bzz0y19 TEzz0y20 TWzz0y21 hT9 hszz0y23 hlayzz0y24 hLzz0y25 hrzz0y26 hlzz0y27 hLzz0y33 razz0y34 wzz0y35 rzz0y36 hIzz0y37 hrzz0y38 hcondzz0y39 hcondzz0y40 hDzz0y41 leftzz0y52 leftzz0y53 leftzz0y54 leftzz0y55 leftzz0y56 leftzz0y57 leftzz0y58 rightzz0y59 Xzz0y60 Xzz0y61 Tzz0y62 Kzz0y63 lifted codeHdzz0y64 codeHd lzz0y65 hunp dr Fzz3y1 hpy d1 d2 d4 d5 d6 d7 d8 hDn hpl hplen hsz hTT d3 hT hpb hR F hcv hoV hon hQ hDR hp hC hx F2 N2 ne hpp hok
  k_steps
  unfold Stop
  (with_reducible rename Fr _ _ _ _ => zF)
  (with_reducible rename News _ _ _ _ => zN)
  k_dflt (refine' lhls_spec _ p T sh lt _ _ _ _ _ _ _ _ _ _ _ _ _ _ _ _ _ _ _ _ _ _ _ _ ?k1 ?k2 ?k3 ?k5 ?k6 ?k8 ?k9 ?k10 ?_; (case k1 => k_asm); (case k2 => k_asm); (case k3 => k_asm); (case k5 => k_asm); (case k6 => exact rfl); (case k8 => exact hok); (case k9 => ktr_room); (case k10 => ktr_units); k_whole)
  intro d9 ta tb tc n9 hz tz kp dn dg
  exact colEnd (congrArg (List.cons (V, LCg.lst vs)) hR) zF zN kp dn dg
end r5_c1
noncomputable def r5_R2 (z : Sk) : Prop := r5_k.2.1 (z.h 0) (z.n 0) (z.a 0) (z.lv 0) (z.ao 0)
namespace r5_c2
def h := (skv r5_R2).h 0
def tk := (skv r5_R2).n 0
def Wl := (skv r5_R2).a 0
def ws := (skv r5_R2).lv 0
def nv2 := (skv r5_R2).ao 0
noncomputable def r7_k : Σ' (P1 : Addr → Heap → Addr → Heap → (List (Addr × Obj)) → Prop), (∀ lzz7y2 hzz7y3 lzz7y5 hzz7y6 K0, P1 lzz7y2 hzz7y3 lzz7y5 hzz7y6 K0) → r5_k.2.1 h tk Wl ws nv2 := ⟨_, by
  intro hP_1 
  intro Gzz0y6 Yzz0y7 hozz0y13 hcdzz0y14 hgzz0y15 hT8 Xzz0y16 Vzz0y17 Tzz0y18 Bzz0y19 TEzz0y20 TWzz0y21 hT9 hszz0y23 hlayzz0y24 hLzz0y25 hrzz0y26 hlzz0y27 hLzz0y33 razz0y34 wzz0y35 rzz0y36 hIzz0y37 hrzz0y38 hcondzz0y39 hcondzz0y40 hDzz0y41 leftzz0y52 leftzz0y53 leftzz0y54 leftzz0y55 leftzz0y56 leftzz0y57 leftzz0y58 rightzz0y59 Xzz0y60 Xzz0y61 Tzz0y62 Kzz0y63 lifted codeHdzz0y64 codeHd lzz0y65 hunp se dr Fzz3y1 hpy d1 d2 d4 d5 d6 d7 d8 hDn hpl hplen hsz hTT d3 hT hpb Fzz5y1 F hcw hcv hK0 hK8 N0 hwl hh1 hh2
  k_steps
  unfold Stop
  (with_reducible rename Fr _ _ _ _ => zF)
  refine nameK0 hK0 (fun K0 hK0e hK0 => ?_)
  k_here
  refine wpAny_Assign_Name ?_ (by with_unfolding_all rfl)
  refine ListComp_ZF zF (by rfl) (by with_unfolding_all rfl) (by decide) (by rfl) (by decide) (by rfl) (by rfl) (by decide) ?_
  rename_i hKzz7y1 lzz7y2 hzz7y3 lzz7y4 lzz7y5 hzz7y6 Nzz7y7 lzz7y8
  revert Gzz0y6 Yzz0y7 hozz0y13 hcdzz0y14 hgzz0y15 hT8 Xzz0y16 Vzz0y17 Tzz0y18 Bzz0y19 TEzz0y20 TWzz0y21 hT9 hszz0y23 hlayzz0y24 hLzz0y25 hrzz0y26 hlzz0y27 hLzz0y33 razz0y34 wzz0y35 rzz0y36 hIzz0y37 hrzz0y38 hcondzz0y39 hcondzz0y40 hDzz0y41 leftzz0y52 leftzz0y53 leftzz0y54 leftzz0y55 leftzz0y56 leftzz0y57 leftzz0y58 rightzz0y59 Xzz0y60 Xzz0y61 Tzz0y62 Kzz0y63 lifted codeHdzz0y64 codeHd lzz0y65 hunp se dr hpy d1 d2 d4 d5 d6 d7 d8 hDn hpl hplen hsz hTT d3 hT hpb hcw hcv hKzz7y1 hK8 hwl hh1 hh2 lzz7y4 zF Nzz7y7 lzz7y8 hK0e hK0
  exact hP_1 lzz7y2 hzz7y3 lzz7y5 hzz7y6 K0⟩
noncomputable def r7_R (z : Sk) : Prop := r7_k.1 (z.a 0) (z.h 0) (z.a 1) (z.h 1) (z.ao 0)
namespace r7_c
def K0 := (skv r7_R).ao 0
noncomputable def r8_k : Σ' (P1 : Int → Addr → Addr → Addr → Obj → (Str → Option Value) → Heap → Nat → (Value → Shared → Prop) → Obj → Obj → Obj → Obj → Obj → Int → Tok → Addr → Tok → Tok → Tok → Nat → Prop), Σ' (P2 : Addr → (List Value) → Heap → Nat → Addr → Obj → (Array Value) → Tok → Addr → Obj → (Array Value) → Tok → Heap → Obj → Prop), (∀ se b9 C D3 oC m₂ h2 tk2 E' q1 q2 q3 q4 q5 p tp d ta tb tc kk, P1 se b9 C D3 oC m₂ h2 tk2 E' q1 q2 q3 q4 q5 p tp d ta tb tc kk) → (∀ Rd zs h3 tk3 c1 oc1 vs1 tq1 c2 oc2 vs2 tq2 h5 o8', P2 Rd zs h3 tk3 c1 oc1 vs1 tq1 c2 oc2 vs2 tq2 h5 o8') → r7_k.1 ((skv r7_R).a 0) ((skv r7_R).h 0) ((skv r7_R).a 1) ((skv r7_R).h 1) K0 := ⟨_, _, by
  intro hP_1 hP_2 
  intro Gzz0y6 Yzz0y7 hozz0y13 hcdzz0y14 hgzz0y15 hT8 Xzz0y16 Vzz0y17 Tzz0y18 Bzz0y19 TEzz0y20 TWzz0y21 hT9 hszz0y23 hlayzz0y24 hLzz0y25 hrzz0y26 hlzz0y27 hLzz0y33 razz0y34 wzz0y35 rzz0y36 hIzz0y37 hrzz0y38 hcondzz0y39 hcondzz0y40 hDzz0y41 leftzz0y52 leftzz0y53 leftzz0y54 leftzz0y55 leftzz0y56 leftzz0y57 leftzz0y58 rightzz0y59 Xzz0y60 Xzz0y61 Tzz0y62 Kzz0y63 lifted codeHdzz0y64 codeHd lzz0y65 hunp se dr hpy d1 d2 d4 d5 d6 d7 d8 hDn hpl hplen hsz hTT d3 hT hpb hcw hcv hKzz7y1 hK8 hwl hh1 hh2 lzz7y4 zF Nzz7y7 lzz7y8 hK0e hK0
  k_steps
  unfold Stop
  (with_reducible rename Fr _ _ _ _ => zF)
  (with_reducible rename News _ _ _ _ => zN)
  have hmW : (Wl, LCg.lst ws) ∈ K0 := by rw [← hK0e]; exact .head _
  have hmD : (D, LCg.lst pys) ∈ K0 := by rw [← hK0e]; exact .tail _ (.tail _ (.head _))
  have hmN : ∀ p ∈ nv2, p ∈ K0 := fun p hp => by rw [← hK0e]; simp only [List.mem_cons, hp, or_true]
  refine zipSrc (nw₀ := (72, tabObj #[]) :: (65, tabObj #[]) :: K0) (RInv K0 (placesL hN sN b) T) zF zN (by k_mem) (by k_mem) (by omega) (by omega) ?sub (.inl ⟨rfl, rfl, rfl⟩) ?keep ?turn ?fin
  case sub =>
    rw [← hK0e]
    refine subC (by k_mem) (subC (by k_mem) (subC (by k_mem) (subC (by k_mem) (subC (by k_mem) (subC (by k_mem) (subC (by k_mem) (subC (by k_mem) (subC (by k_mem) (subC (by k_mem) (subC (by k_mem) (subC (by k_mem) (subC (by k_mem) (fun p hp => ?_)))))))))))))
    repeat (first | exact hp | refine List.Mem.tail _ ?_)
  case keep =>
    rintro i zs nw (⟨_, _, rfl⟩ | ⟨c1, oc1, vs1, tq1, c2, oc2, vs2, tq2, _, rfl, _⟩)
    · exact ⟨.tail _ (.tail _ hmW), .tail _ (.tail _ hmD)⟩
    · exact ⟨.tail _ (.tail _ (.tail _ (.tail _ hmW))), .tail _ (.tail _ (.tail _ (.tail _ hmD)))⟩
  case turn =>
    intro b9 C D3 i zs nw v₁ v₂ its oC m₂ h2 tk2 E' hi J hv1 hv2 hits hC hm1 hm2 F2 N2 off2
    obtain ⟨q1, q2, q3, q4, q5, rfl⟩ := five_its hits
    obtain ⟨p, tp, rfl, hp⟩ := IntsAre.at hpy i v₂ hv2
    obtain ⟨d, ta, tb, tc, kk, hvd, hmd⟩ := hcw.2 i p (by omega) hp
    rw [hvd] at hv1
    cases hv1
    have hpp := hpb i p hp
    have hok := read_ok (sh := sh) (lt := lt) (p := p) dr.sh.1 dr.sh.2 dr.lt.1 dr.lt.2 hT.1 hT.2 hpp.1 hpp.2.1 hpp.2.2
    have hmdK := hmN _ hmd
    clear zF zN
    revert Gzz0y6 Yzz0y7 hozz0y13 hcdzz0y14 hgzz0y15 hT8 Xzz0y16 Vzz0y17 Tzz0y18 Bzz0y19 TEzz0y20 TWzz0y21 hT9 hszz0y23 hlayzz0y24 hLzz0y25 hrzz0y26 hlzz0y27 hLzz0y33 razz0y34 wzz0y35 rzz0y36 hIzz0y37 hrzz0y38 hcondzz0y39 hcondzz0y40 hDzz0y41 leftzz0y52 leftzz0y53 leftzz0y54 leftzz0y55 leftzz0y56 leftzz0y57 leftzz0y58 rightzz0y59 Xzz0y60 Xzz0y61 Tzz0y62 Kzz0y63 lifted codeHdzz0y64 codeHd lzz0y65 hunp dr hpy d1 d2 d4 d5 d6 d7 d8 hDn hpl hplen hsz hTT d3 hT hpb hcw hcv hKzz7y1 hK8 hwl hh1 hh2 lzz7y4 lzz7y8 hK0e hK0 hmW hmD hmN i zs nw hi J hC F2 hits N2 off2 hp hv2 hm2 hvd hmd hm1 hpp hok hmdK
    exact hP_1 se b9 C D3 oC m₂ h2 tk2 E' q1 q2 q3 q4 q5 p tp d ta tb tc kk
  case fin =>
    intro Rd zs nw h3 tk3 J F3 N3 off3
    rcases J with ⟨e0, _⟩ | ⟨c1, oc1, vs1, tq1, c2, oc2, vs2, tq2, x, rfl, hcK, hI⟩
    · omega
    · clear zF zN
      rw [List.take_of_length_le (by omega)] at hI
      have N4 := N3
      rw [← hK0e] at N4 off3 hcK
      simp only [tabsR, List.cons_append, List.nil_append] at N4
      clear N3
      refine stCN (own := [(Rd, _), (72, _), (65, _), (c1, _), (c2, _), (Wl, _), (V, _), (D, _)]) (rest := _) F3 N4 (by rfl) d8 ?h1 ?h2 ?h3 (by rfl) (by rfl)
      case h1 =>
        intro p hp
        simp only [List.mem_cons, List.not_mem_nil, or_false] at hp
        rcases hp with rfl | rfl | rfl | rfl | rfl | rfl | rfl | rfl
        · exact fun e => off3 _ (.tail _ (.tail _ (.tail _ (.tail _ (.tail _ (.tail _ (.tail _ (.head _)))))))) e.symm
        · k_ne
        · k_ne
        · exact (hcK _ (.tail _ (.tail _ (.tail _ (.head _))))).1
        · exact (hcK _ (.tail _ (.tail _ (.tail _ (.head _))))).2
        · exact hK8.1.1
        · exact hK8.1.2
        · exact hDn.2.2
      case h2 =>
        intro p hp
        simp only [List.mem_cons] at hp
        rcases hp with rfl | rfl | rfl | rfl | rfl | rfl | rfl | hp
        · k_ne
        · k_ne
        · k_ne
        · k_ne
        · k_ne
        · k_ne
        · k_ne
        · exact hK8.2 p hp
      case h3 =>
        intro h5 o8' F5 N5 d8'
        simp only [List.cons_append, List.nil_append] at N5
        clear N4 F3
        have hzl : zs.length = hN := by have := hI.length; simp at this; omega
        have hany := anyNeg (ps := placesL hN sN b) hT.1
        have hc6 : ((placesL hN sN b).map fun p => armP p T).count 6 = 0 := count6 hT.1
        have hav := fun (i : Nat) (p : Int) (hp : (placesL hN sN b)[i]? = some p) => arm_hsv (sh := sh) (lv := lv) dr.sh.1 dr.sh.2 dr.lv.1 dr.lv.2 hT.1 hT.2 (hpb i p hp).1 (hpb i p hp).2.1
        have haw := fun (i : Nat) (p : Int) (hp : (placesL hN sN b)[i]? = some p) => arm_hls (sh := sh) (lt := lt) (p := p) dr.sh.1 dr.sh.2 dr.lt.1 dr.lt.2 hT.1 hT.2 (by have := hpb i p hp; omega) (by have := hpb i p hp; omega)
        revert Gzz0y6 Yzz0y7 hozz0y13 hcdzz0y14 hgzz0y15 hT8 Xzz0y16 Vzz0y17 Tzz0y18 Bzz0y19 TEzz0y20 TWzz0y21 hT9 hszz0y23 hlayzz0y24 hLzz0y25 hrzz0y26 hlzz0y27 hLzz0y33 razz0y34 wzz0y35 rzz0y36 hIzz0y37 hrzz0y38 hcondzz0y39 hcondzz0y40 hDzz0y41 leftzz0y52 leftzz0y53 leftzz0y54 leftzz0y55 leftzz0y56 leftzz0y57 leftzz0y58 rightzz0y59 Xzz0y60 Xzz0y61 Tzz0y62 Kzz0y63 lifted codeHdzz0y64 codeHd lzz0y65 hunp se dr hpy d1 d2 d4 d5 d6 d7 d8 hDn hpl hplen hsz hTT d3 hT hpb hcw hcv hKzz7y1 hK8 hwl hh1 hh2 lzz7y4 lzz7y8 hK0e hK0 hmW hmD hmN x off3 hcK hI F5 N5 d8' hzl hany hc6 hav haw
        exact hP_2 Rd zs h3 tk3 c1 oc1 vs1 tq1 c2 oc2 vs2 tq2 h5 o8'⟩
noncomputable def r8_R1 (z : Sk) : Prop := r8_k.1 (z.i 0) (z.a 0) (z.a 1) (z.a 2) (z.o 0) (z.m 0) (z.h 0) (z.n 0) (z.q 0) (z.o 1) (z.o 2) (z.o 3) (z.o 4) (z.o 5) (z.i 1) (z.t 0) (z.a 3) (z.t 1) (z.t 2) (z.t 3) (z.n 1)
namespace r8_c1
def p := (skv r8_R1).i 1
def d := (skv r8_R1).a 3
def ta := (skv r8_R1).t 1
def tb := (skv r8_R1).t 2
def tc := (skv r8_R1).t 3
def kk := (skv r8_R1).n 1
noncomputable def r9_k : Σ' (P1 : Prop), Σ' (P2 : Nat → (List Value) → Addr → Obj → (Array Value) → Tok → Addr → Obj → (Array Value) → Tok → Prop), P1 → (∀ i zs c1 oc1 vs1 tq1 c2 oc2 vs2 tq2, P2 i zs c1 oc1 vs1 tq1 c2 oc2 vs2 tq2) → r8_k.1 ((skv r8_R1).i 0) ((skv r8_R1).a 0) ((skv r8_R1).a 1) ((skv r8_R1).a 2) ((skv r8_R1).o 0) ((skv r8_R1).m 0) ((skv r8_R1).h 0) ((skv r8_R1).n 0) ((skv r8_R1).q 0) ((skv r8_R1).o 1) ((skv r8_R1).o 2) ((skv r8_R1).o 3) ((skv r8_R1).o 4) ((skv r8_R1).o 5) p ((skv r8_R1).t 0) d ta tb tc kk := ⟨_, _, by
  intro hP_1 hP_2 
  intro Gzz0y6 Yzz0y7 hozz0y13 hcdzz0y14 hgzz0y15 hT8 Xzz0y16 Vzz0y17 Tzz0y18 Bzz0y19 TEzz0y20 TWzz0y21 hT9 hszz0y23 hlayzz0y24 hLzz0y25 hrzz0y26 hlzz0y27 hLzz0y33 razz0y34 wzz0y35 rzz0y36 hIzz0y37 hrzz0y38 hcondzz0y39 hcondzz0y40 hDzz0y41 leftzz0y52 leftzz0y53 leftzz0y54 leftzz0y55 leftzz0y56 leftzz0y57 leftzz0y58 rightzz0y59 Xzz0y60 Xzz0y61 Tzz0y62 Kzz0y63 lifted codeHdzz0y64 codeHd lzz0y65 hunp dr hpy d1 d2 d4 d5 d6 d7 d8 hDn hpl hplen hsz hTT d3 hT hpb hcw hcv hKzz7y1 hK8 hwl hh1 hh2 lzz7y4 lzz7y8 hK0e hK0 hmW hmD hmN i zs nw hi J hC F2 hits N2 off2 hp hv2 hm2 hvd hmd hm1 hpp hok hmdK
  rcases J with ⟨rfl, rfl, rfl⟩ | ⟨c1, oc1, vs1, tq1, c2, oc2, vs2, tq2, x, rfl, hcK, hI⟩
  · have N3 := N2
    rw [← hK0e] at N3
    simp only [List.cons_append, List.nil_append] at N3
    clear N2
    revert Gzz0y6 Yzz0y7 hozz0y13 hcdzz0y14 hgzz0y15 hT8 Xzz0y16 Vzz0y17 Tzz0y18 Bzz0y19 TEzz0y20 TWzz0y21 hT9 hszz0y23 hlayzz0y24 hLzz0y25 hrzz0y26 hlzz0y27 hLzz0y33 razz0y34 wzz0y35 rzz0y36 hIzz0y37 hrzz0y38 hcondzz0y39 hcondzz0y40 hDzz0y41 leftzz0y52 leftzz0y53 leftzz0y54 leftzz0y55 leftzz0y56 leftzz0y57 leftzz0y58 rightzz0y59 Xzz0y60 Xzz0y61 Tzz0y62 Kzz0y63 lifted codeHdzz0y64 codeHd lzz0y65 hunp dr hpy d1 d2 d4 d5 d6 d7 d8 hDn hpl hplen hsz hTT d3 hT hpb hcw hcv hKzz7y1 hK8 hwl hh1 hh2 lzz7y4 lzz7y8 hK0e hK0 hmW hmD hmN hC F2 hits hm2 hmd hm1 hpp hok hmdK hi hp hv2 hvd off2 N3
    exact hP_1 
  · have N3 := N2
    rw [← hK0e] at N3
    simp only [tabsR, List.cons_append, List.nil_append] at N3
    clear N2
    revert Gzz0y6 Yzz0y7 hozz0y13 hcdzz0y14 hgzz0y15 hT8 Xzz0y16 Vzz0y17 Tzz0y18 Bzz0y19 TEzz0y20 TWzz0y21 hT9 hszz0y23 hlayzz0y24 hLzz0y25 hrzz0y26 hlzz0y27 hLzz0y33 razz0y34 wzz0y35 rzz0y36 hIzz0y37 hrzz0y38 hcondzz0y39 hcondzz0y40 hDzz0y41 leftzz0y52 leftzz0y53 leftzz0y54 leftzz0y55 leftzz0y56 leftzz0y57 leftzz0y58 rightzz0y59 Xzz0y60 Xzz0y61 Tzz0y62 Kzz0y63 lifted codeHdzz0y64 codeHd lzz0y65 hunp dr hpy d1 d2 d4 d5 d6 d7 d8 hDn hpl hplen hsz hTT d3 hT hpb hcw hcv hKzz7y1 hK8 hwl hh1 hh2 lzz7y4 lzz7y8 hK0e hK0 hmW hmD hmN hi hC F2 hits hp hv2 hm2 hvd hmd hm1 hpp hok hmdK x off2 hcK hI N3
    exact hP_2 i zs c1 oc1 vs1 tq1 c2 oc2 vs2 tq2⟩
namespace r9_c1
theorem r11 : r9_k.1  := by
  intro Gzz0y6 Yzz0y7 hozz0y13 hcdzz0y14 hgzz0y15 hT8 Xzz0y16 Vzz0y17 Tzz0y18 Bzz0y19 TEzz0y20 TWzz0y21 hT9 hszz0y23 hlayzz0y24 hLzz0y25 hrzz0y26 hlzz0y27 hLzz0y33 razz0y34 wzz0y35 rzz0y36 hIzz0y37 hrzz0y38 hcondzz0y39 hcondzz0y40 hDzz0y41 leftzz0y52 leftzz0y53 leftzz0y54 leftzz0y55 leftzz0y56 leftzz0y57 leftzz0y58 rightzz0y59 Xzz0y60 Xzz0y61 Tzz0y62 Kzz0y63 lifted codeHdzz0y64 codeHd lzz0y65 hunp dr hpy d1 d2 d4 d5 d6 d7 d8 hDn hpl hplen hsz hTT d3 hT hpb hcw hcv hKzz7y1 hK8 hwl hh1 hh2 lzz7y4 lzz7y8 hK0e hK0 hmW hmD hmN hC F2 hits hm2 hmd hm1 hpp hok hmdK hi hp hv2 hvd off2 N3
  k_steps
  unfold Stop
  (with_reducible rename Fr _ _ _ _ => zF)
  (with_reducible rename News _ _ _ _ => zN)
  have zn := newsTab zN (by k_mem) (by k_mem)
  k_dflt (refine' read_T0 _ d kk (hlsX p T sh lt) (hlsY p T sh lt) (hlsZ p T sh lt) p T sh lt ta tb tc _ _ _ _ _ _ _ _ _ _ _ _ _ _ _ _ _ _ _ _ _ _ _ _ ?k1 ?k2 ?k3 ?k4 ?k5 ?k6 ?kC1 ?kC2 ?k8 ?k9 ?k10 ?_; (case k1 => k_asm); (case k2 => k_asm); (case k3 => k_asm); (case k4 => exact zn); (case k5 => k_asm); (case k6 => exact rfl); (case kC1 => assumption); (case kC2 => assumption); (case k8 => exact ⟨(zN (d, col3 (fHls T sh lt p) ta tb tc kk) (by simp only [List.mem_cons, hmd, or_true])).1, hok⟩); (case k9 => ktr_room); (case k10 => ktr_units); k_whole)
  intro tt hz tz kb t0
  exact zEnd0 (its := [_, _, _, _, _]) zF (by rw [← hK0e]; exact zN) off2 hK0 kb t0 hp
end r9_c1
noncomputable def r9_R2 (z : Sk) : Prop := r9_k.2.1 (z.n 0) (z.lv 0) (z.a 0) (z.o 0) (z.av 0) (z.t 0) (z.a 1) (z.o 1) (z.av 1) (z.t 1)
namespace r9_c2
def c1 := (skv r9_R2).a 0
def oc1 := (skv r9_R2).o 0
def vs1 := (skv r9_R2).av 0
def tq1 := (skv r9_R2).t 0
def c2 := (skv r9_R2).a 1
def oc2 := (skv r9_R2).o 1
def vs2 := (skv r9_R2).av 1
def tq2 := (skv r9_R2).t 1
theorem r12 : r9_k.2.1 ((skv r9_R2).n 0) ((skv r9_R2).lv 0) c1 oc1 vs1 tq1 c2 oc2 vs2 tq2 := by
  intro Gzz0y6 Yzz0y7 hozz0y13 hcdzz0y14 hgzz0y15 hT8 Xzz0y16 Vzz0y17 Tzz0y18 Bzz0y19 TEzz0y20 TWzz0y21 hT9 hszz0y23 hlayzz0y24 hLzz0y25 hrzz0y26 hlzz0y27 hLzz0y33 razz0y34 wzz0y35 rzz0y36 hIzz0y37 hrzz0y38 hcondzz0y39 hcondzz0y40 hDzz0y41 leftzz0y52 leftzz0y53 leftzz0y54 leftzz0y55 leftzz0y56 leftzz0y57 leftzz0y58 rightzz0y59 Xzz0y60 Xzz0y61 Tzz0y62 Kzz0y63 lifted codeHdzz0y64 codeHd lzz0y65 hunp dr hpy d1 d2 d4 d5 d6 d7 d8 hDn hpl hplen hsz hTT d3 hT hpb hcw hcv hKzz7y1 hK8 hwl hh1 hh2 lzz7y4 lzz7y8 hK0e hK0 hmW hmD hmN hi hC F2 hits hp hv2 hm2 hvd hmd hm1 hpp hok hmdK x off2 hcK hI N3
  k_steps
  unfold Stop
  (with_reducible rename Fr _ _ _ _ => zF)
  (with_reducible rename News _ _ _ _ => zN)
  have zn := newsTab zN (by k_mem) (by k_mem)
  k_dflt (refine' read_T1 _ c1 oc1 vs1 tq1 c2 oc2 vs2 tq2 d kk (hlsX p T sh lt) (hlsY p T sh lt) (hlsZ p T sh lt) p T sh lt ta tb tc _ _ _ _ _ _ _ _ _ _ _ _ _ _ _ _ _ _ _ _ _ _ _ _ ?k1 ?k2 ?k3 ?k4 ?k5 ?k6 ?kC1 ?kC2 ?k8 ?k9 ?k10 ?_; (case k1 => k_asm); (case k2 => k_asm); (case k3 => k_asm); (case k4 => exact zn); (case k5 => k_asm); (case k6 => exact rfl); (case kC1 => assumption); (case kC2 => assumption); (case k8 => exact ⟨x.fa zN (by k_mem) (by k_mem) (by k_mem) (by k_mem), (zN (d, col3 (fHls T sh lt p) ta tb tc kk) (by simp only [List.mem_cons, hmd, or_true])).1, hok⟩); (case k9 => ktr_room); (case k10 => ktr_units); k_whole)
  intro tt hz tz kb
  exact zEnd1 (its := [_, _, _, _, _]) x zF (by rw [← hK0e]; exact zN) off2 kb hcK hI hp
end r9_c2
theorem r9  : r8_k.1 ((skv r8_R1).i 0) ((skv r8_R1).a 0) ((skv r8_R1).a 1) ((skv r8_R1).a 2) ((skv r8_R1).o 0) ((skv r8_R1).m 0) ((skv r8_R1).h 0) ((skv r8_R1).n 0) ((skv r8_R1).q 0) ((skv r8_R1).o 1) ((skv r8_R1).o 2) ((skv r8_R1).o 3) ((skv r8_R1).o 4) ((skv r8_R1).o 5) p ((skv r8_R1).t 0) d ta tb tc kk :=
  r9_k.2.2 r9_c1.r11 (fun i zs c1 oc1 vs1 tq1 c2 oc2 vs2 tq2 => skva r9_R2 r9_c2.r12 (sk_n i <| sk_lv zs <| sk_a c1 <| sk_o oc1 <| sk_av vs1 <| sk_t tq1 <| sk_a c2 <| sk_o oc2 <| sk_av vs2 <| sk_t tq2 <| dS)) 
end r8_c1
noncomputable def r8_R2 (z : Sk) : Prop := r8_k.2.1 (z.a 0) (z.lv 0) (z.h 0) (z.n 0) (z.a 1) (z.o 0) (z.av 0) (z.t 0) (z.a 2) (z.o 1) (z.av 1) (z.t 1) (z.h 1) (z.o 2)
namespace r8_c2
def Rd := (skv r8_R2).a 0
def zs := (skv r8_R2).lv 0
def c1 := (skv r8_R2).a 1
def oc1 := (skv r8_R2).o 0
def vs1 := (skv r8_R2).av 0
def tq1 := (skv r8_R2).t 0
def c2 := (skv r8_R2).a 2
def oc2 := (skv r8_R2).o 1
def vs2 := (skv r8_R2).av 1
def tq2 := (skv r8_R2).t 1
def h5 := (skv r8_R2).h 1
noncomputable def r10_k : Σ' (P1 : Nat → Addr → Addr → (List Value) → Nat → Tok → Heap → Nat → Prop), (∀ tk dA dlA ysA nA tA hzA tzA, P1 tk dA dlA ysA nA tA hzA tzA) → r8_k.2.1 Rd zs ((skv r8_R2).h 0) ((skv r8_R2).n 0) c1 oc1 vs1 tq1 c2 oc2 vs2 tq2 h5 ((skv r8_R2).o 2) := ⟨_, by
  intro hP_1 
  intro Gzz0y6 Yzz0y7 hozz0y13 hcdzz0y14 hgzz0y15 hT8 Xzz0y16 Vzz0y17 Tzz0y18 Bzz0y19 TEzz0y20 TWzz0y21 hT9 hszz0y23 hlayzz0y24 hLzz0y25 hrzz0y26 hlzz0y27 hLzz0y33 razz0y34 wzz0y35 rzz0y36 hIzz0y37 hrzz0y38 hcondzz0y39 hcondzz0y40 hDzz0y41 leftzz0y52 leftzz0y53 leftzz0y54 leftzz0y55 leftzz0y56 leftzz0y57 leftzz0y58 rightzz0y59 Xzz0y60 Xzz0y61 Tzz0y62 Kzz0y63 lifted codeHdzz0y64 codeHd lzz0y65 hunp se dr hpy d1 d2 d4 d5 d6 d7 d8 hDn hpl hplen hsz hTT d3 hT hpb hcw hcv hKzz7y1 hK8 hwl hh1 hh2 lzz7y4 lzz7y8 hK0e hK0 hmW hmD hmN x off3 hcK hI F5 N5 d8' hzl hany hc6 hav haw
  k_steps
  unfold Stop
  (with_reducible rename Fr _ _ _ _ => zF)
  (with_reducible rename News _ _ _ _ => zN)
  k_dflt (refine' arms_spec _ V vs.toArray ((placesL hN sN b).map fun p => armP p T) _ _ _ _ _ _ _ _ _ _ _ _ _ _ _ _ _ _ _ _ ?k1 ?k2 ?k3 ?k5 ?k6 ?k8 ?k9 ?k10 ?_; (case k1 => k_asm); (case k2 => k_asm); (case k3 => k_asm); (case k5 => k_asm); (case k6 => exact rfl); (case k8 => exact colsArms zN (by k_mem) (by intro p hp; simp only [List.mem_cons, hp, or_true]) hcv (by omega) hav); (case k9 => ktr_room); (case k10 => ktr_units); k_whole)
  intro dA dlA ysA nA tA hzA tzA kpA dnA lnA dgA lgA hiA dneA
  rw [hc6] at dgA
  have neA := fresh2 zN (by k_mem) (by k_mem) lnA
  have FA := frKeep zF kpA
  have NA := newsKeepC zF (newsKeepC zF (newsKeep zN kpA) lnA lgA) dnA dgA
  clear zF zN kpA dgA lgA
  rename_i azz12y1
  revert Gzz0y6 Yzz0y7 hozz0y13 hcdzz0y14 hgzz0y15 hT8 Xzz0y16 Vzz0y17 Tzz0y18 Bzz0y19 TEzz0y20 TWzz0y21 hT9 hszz0y23 hlayzz0y24 hLzz0y25 hrzz0y26 hlzz0y27 hLzz0y33 razz0y34 wzz0y35 rzz0y36 hIzz0y37 hrzz0y38 hcondzz0y39 hcondzz0y40 hDzz0y41 leftzz0y52 leftzz0y53 leftzz0y54 leftzz0y55 leftzz0y56 leftzz0y57 leftzz0y58 rightzz0y59 Xzz0y60 Xzz0y61 Tzz0y62 Kzz0y63 lifted codeHdzz0y64 codeHd lzz0y65 hunp se dr hpy d1 d2 d4 d5 d6 d7 d8 hDn hpl hplen hsz hTT d3 hT hpb hcw hcv hKzz7y1 hK8 hwl hh1 hh2 lzz7y4 lzz7y8 hK0e hK0 hmW hmD hmN x off3 hcK hI d8' hzl hany hc6 hav haw azz12y1 dnA lnA hiA dneA neA FA NA
  exact hP_1 tk dA dlA ysA nA tA hzA tzA⟩
noncomputable def r10_R (z : Sk) : Prop := r10_k.1 (z.n 0) (z.a 0) (z.a 1) (z.lv 0) (z.n 1) (z.t 0) (z.h 0) (z.n 2)
namespace r10_c
def tk := (skv r10_R).n 0
def dlA := (skv r10_R).a 1
def ysA := (skv r10_R).lv 0
noncomputable def r13_k : Σ' (P1 : Heap → Heap → Heap → Nat → Addr → Addr → (List Value) → Nat → Tok → Heap → Nat → Prop), (∀ hzz13y1 hzz13y2 hzz13y3 tk dB dlB ysB nB tB hzB tzB, P1 hzz13y1 hzz13y2 hzz13y3 tk dB dlB ysB nB tB hzB tzB) → r10_k.1 tk ((skv r10_R).a 0) dlA ysA ((skv r10_R).n 1) ((skv r10_R).t 0) ((skv r10_R).h 0) ((skv r10_R).n 2) := ⟨_, by
  intro hP_1 
  intro Gzz0y6 Yzz0y7 hozz0y13 hcdzz0y14 hgzz0y15 hT8 Xzz0y16 Vzz0y17 Tzz0y18 Bzz0y19 TEzz0y20 TWzz0y21 hT9 hszz0y23 hlayzz0y24 hLzz0y25 hrzz0y26 hlzz0y27 hLzz0y33 razz0y34 wzz0y35 rzz0y36 hIzz0y37 hrzz0y38 hcondzz0y39 hcondzz0y40 hDzz0y41 leftzz0y52 leftzz0y53 leftzz0y54 leftzz0y55 leftzz0y56 leftzz0y57 leftzz0y58 rightzz0y59 Xzz0y60 Xzz0y61 Tzz0y62 Kzz0y63 lifted codeHdzz0y64 codeHd lzz0y65 hunp se dr hpy d1 d2 d4 d5 d6 d7 d8 hDn hpl hplen hsz hTT d3 hT hpb hcw hcv hKzz7y1 hK8 hwl hh1 hh2 lzz7y4 lzz7y8 hK0e hK0 hmW hmD hmN x off3 hcK hI d8' hzl hany hc6 hav haw azz12y1 dnA lnA hiA dneA neA FA NA
  k_steps
  unfold Stop
  (with_reducible rename Fr _ _ _ _ => zF)
  (with_reducible rename News _ _ _ _ => zN)
  k_dflt (refine' arms_spec _ Wl ws.toArray ((placesL hN sN b).map fun p => armP p T) _ _ _ _ _ _ _ _ _ _ _ _ _ _ _ _ _ _ _ _ ?k1 ?k2 ?k3 ?k5 ?k6 ?k8 ?k9 ?k10 ?_; (case k1 => k_asm); (case k2 => k_asm); (case k3 => k_asm); (case k5 => k_asm); (case k6 => exact rfl); (case k8 => exact colsArms zN (by k_mem) (by intro p hp; simp only [List.mem_cons, hp, or_true]) hcw (by omega) haw); (case k9 => ktr_room); (case k10 => ktr_units); k_whole)
  intro dB dlB ysB nB tB hzB tzB kpB dnB lnB dgB lgB hiB dneB
  rw [hc6] at dgB
  have neB := fresh2 zN (by k_mem) (by k_mem) lnB
  have FB := frKeep zF kpB
  have NB := newsKeepC zF (newsKeepC zF (newsKeep zN kpB) lnB lgB) dnB dgB
  clear zF zN kpB dgB lgB
  rename_i hzz13y1 hzz13y2 hzz13y3
  revert Gzz0y6 Yzz0y7 hozz0y13 hcdzz0y14 hgzz0y15 hT8 Xzz0y16 Vzz0y17 Tzz0y18 Bzz0y19 TEzz0y20 TWzz0y21 hT9 hszz0y23 hlayzz0y24 hLzz0y25 hrzz0y26 hlzz0y27 hLzz0y33 razz0y34 wzz0y35 rzz0y36 hIzz0y37 hrzz0y38 hcondzz0y39 hcondzz0y40 hDzz0y41 leftzz0y52 leftzz0y53 leftzz0y54 leftzz0y55 leftzz0y56 leftzz0y57 leftzz0y58 rightzz0y59 Xzz0y60 Xzz0y61 Tzz0y62 Kzz0y63 lifted codeHdzz0y64 codeHd lzz0y65 hunp se dr hpy d1 d2 d4 d5 d6 d7 d8 hDn hpl hplen hsz hTT d3 hT hpb hcw hcv hKzz7y1 hK8 hwl hh1 hh2 lzz7y4 lzz7y8 hK0e hK0 hmW hmD hmN x off3 hcK hI d8' hzl hany hc6 hav haw azz12y1 dnA lnA hiA dneA neA dnB lnB hiB dneB neB FB NB
  exact hP_1 hzz13y1 hzz13y2 hzz13y3 tk dB dlB ysB nB tB hzB tzB⟩
noncomputable def r13_R (z : Sk) : Prop := r13_k.1 (z.h 0) (z.h 1) (z.h 2) (z.n 0) (z.a 0) (z.a 1) (z.lv 0) (z.n 1) (z.t 0) (z.h 3) (z.n 2)
namespace r13_c
def tk := (skv r13_R).n 0
def dlB := (skv r13_R).a 1
def ysB := (skv r13_R).lv 0
noncomputable def r14_k : Σ' (P1 : Heap → Heap → Heap → Nat → Nat → Nat → Nat → (List Value) → Addr → Obj → Addr → Obj → Addr → Obj → Addr → Tok → Heap → Nat → (Value → Shared → Prop) → Prop), Σ' (P2 : Heap → Heap → Heap → Nat → Nat → Nat → Addr → (List Value) → Heap → Nat → Prop), (∀ hzz14y1 hzz14y2 hzz14y3 tkzz14y4 tk seN i zs2 I oI C oC S oS D2 u9 h9 tk9 E9, P1 hzz14y1 hzz14y2 hzz14y3 tkzz14y4 tk seN i zs2 I oI C oC S oS D2 u9 h9 tk9 E9) → (∀ hzz14y1 hzz14y2 hzz14y3 tkzz14y4 tk seN Dh zs2 h9 tk9, P2 hzz14y1 hzz14y2 hzz14y3 tkzz14y4 tk seN Dh zs2 h9 tk9) → r13_k.1 ((skv r13_R).h 0) ((skv r13_R).h 1) ((skv r13_R).h 2) tk ((skv r13_R).a 0) dlB ysB ((skv r13_R).n 1) ((skv r13_R).t 0) ((skv r13_R).h 3) ((skv r13_R).n 2) := ⟨_, _, by
  intro hP_1 hP_2 
  intro Gzz0y6 Yzz0y7 hozz0y13 hcdzz0y14 hgzz0y15 hT8 Xzz0y16 Vzz0y17 Tzz0y18 Bzz0y19 TEzz0y20 TWzz0y21 hT9 hszz0y23 hlayzz0y24 hLzz0y25 hrzz0y26 hlzz0y27 hLzz0y33 razz0y34 wzz0y35 rzz0y36 hIzz0y37 hrzz0y38 hcondzz0y39 hcondzz0y40 hDzz0y41 leftzz0y52 leftzz0y53 leftzz0y54 leftzz0y55 leftzz0y56 leftzz0y57 leftzz0y58 rightzz0y59 Xzz0y60 Xzz0y61 Tzz0y62 Kzz0y63 lifted codeHdzz0y64 codeHd lzz0y65 hunp se dr hpy d1 d2 d4 d5 d6 d7 d8 hDn hpl hplen hsz hTT d3 hT hpb hcw hcv hKzz7y1 hK8 hwl hh1 hh2 lzz7y4 lzz7y8 hK0e hK0 hmW hmD hmN x off3 hcK hI d8' hzl hany hc6 hav haw azz12y1 dnA lnA hiA dneA neA dnB lnB hiB dneB neB FB NB
  k_steps
  unfold Stop
  k_here
  k_dflt (refine Assign_ListComp_S (by k_asm) (by rfl) (by with_unfolding_all rfl) (by with_unfolding_all rfl) (by rfl) (by decide) (fun _ _ => rfl) (fun _ => rfl) (by rfl) (by rfl) (by rfl) ?_)
  k_steps
  unfold Stop
  (with_reducible rename Fr _ _ _ _ => zF)
  (with_reducible rename News _ _ _ _ => zN)
  obtain ⟨seN, rfl⟩ : ∃ k : Nat, se = (k : Int) := ⟨se.toNat, by have := dr.se.1; omega⟩
  refine rangeSrc seN (fun i => (((placesL hN sN b).map (secP (seN : Int) T)).count (i : Int) : Nat)) _ zF zN (fun _ h => h) (by rfl) rfl (by have := dr.se.2; omega) ?t1 ?t2
  case t1 =>
    intro i zs2 I oI C oC S oS D2 u9 h9 tk9 E9 hi hoS F9 N9
    clear zF zN
    rename_i hzz14y1 hzz14y2 hzz14y3 tkzz14y4
    revert Gzz0y6 Yzz0y7 hozz0y13 hcdzz0y14 hgzz0y15 hT8 Xzz0y16 Vzz0y17 Tzz0y18 Bzz0y19 TEzz0y20 TWzz0y21 hT9 hszz0y23 hlayzz0y24 hLzz0y25 hrzz0y26 hlzz0y27 hLzz0y33 razz0y34 wzz0y35 rzz0y36 hIzz0y37 hrzz0y38 hcondzz0y39 hcondzz0y40 hDzz0y41 leftzz0y52 leftzz0y53 leftzz0y54 leftzz0y55 leftzz0y56 leftzz0y57 leftzz0y58 rightzz0y59 Xzz0y60 Xzz0y61 Tzz0y62 Kzz0y63 lifted codeHdzz0y64 codeHd lzz0y65 hunp hpy d1 d2 d4 d5 d6 d8 hDn hpl hplen hsz hTT d3 hT hpb hcw hcv hKzz7y1 hK8 hwl hh1 hh2 lzz7y4 lzz7y8 hK0e hK0 hmW hmD hmN x off3 hcK hI d8' hzl hany hc6 hav haw azz12y1 dnA lnA hiA dneA neA dnB lnB hiB dneB neB dr d7 hi hoS F9 N9
    exact hP_1 hzz14y1 hzz14y2 hzz14y3 tkzz14y4 tk seN i zs2 I oI C oC S oS D2 u9 h9 tk9 E9
  case t2 =>
    intro Dh zs2 h9 tk9 hI2 F9 N9 off9
    have h6 : Two ((List.range 6).map fun k : Nat => ((placesL hN sN b).map (secP ((6 : Nat) : Int) T)).count (k : Int)) := by
      have := two_runs (b := b) dr.h.1 dr.h.2 dr.s.1 dr.s.2 (N := 6) (by decide) (by decide)
      rwa [hTT] at this
    have hS : Two ((List.range seN).map fun k : Nat => ((placesL hN sN b).map (secP (seN : Int) T)).count (k : Int)) := by
      have := two_runs (b := b) dr.h.1 dr.h.2 dr.s.1 dr.s.2 (N := seN) (by have := dr.se.1; omega) (by have := dr.se.2; omega)
      rwa [hTT] at this
    rw [runsEq] at hiA hiB
    rw [runsEq2] at hI2
    have neH : Dh ≠ 65 ∧ Dh ≠ 72 := ⟨fun e => off9 (65, tab65 c1) (by k_mem) e.symm, fun e => off9 (72, tab72 c2) (by k_mem) e.symm⟩
    clear zF zN
    rename_i hzz14y1 hzz14y2 hzz14y3 tkzz14y4
    revert Gzz0y6 Yzz0y7 hozz0y13 hcdzz0y14 hgzz0y15 hT8 Xzz0y16 Vzz0y17 Tzz0y18 Bzz0y19 TEzz0y20 TWzz0y21 hT9 hszz0y23 hlayzz0y24 hLzz0y25 hrzz0y26 hlzz0y27 hLzz0y33 razz0y34 wzz0y35 rzz0y36 hIzz0y37 hrzz0y38 hcondzz0y39 hcondzz0y40 hDzz0y41 leftzz0y52 leftzz0y53 leftzz0y54 leftzz0y55 leftzz0y56 leftzz0y57 leftzz0y58 rightzz0y59 Xzz0y60 Xzz0y61 Tzz0y62 Kzz0y63 lifted codeHdzz0y64 codeHd lzz0y65 hunp hpy d1 d2 d4 d5 d6 d8 hDn hpl hplen hsz hTT d3 hT hpb hcw hcv hKzz7y1 hK8 hwl hh1 hh2 lzz7y4 lzz7y8 hK0e hK0 hmW hmD hmN x off3 hcK hI d8' hzl hany hc6 hav haw azz12y1 dnA lnA hiA dneA neA dnB lnB hiB dneB neB dr d7 hI2 F9 N9 off9 h6 hS neH
    exact hP_2 hzz14y1 hzz14y2 hzz14y3 tkzz14y4 tk seN Dh zs2 h9 tk9⟩
noncomputable def r14_R1 (z : Sk) : Prop := r14_k.1 (z.h 0) (z.h 1) (z.h 2) (z.n 0) (z.n 1) (z.n 2) (z.n 3) (z.lv 0) (z.a 0) (z.o 0) (z.a 1) (z.o 1) (z.a 2) (z.o 2) (z.a 3) (z.t 0) (z.h 3) (z.n 4) (z.q 0)
namespace r14_c1
def tk := (skv r14_R1).n 1
def seN := (skv r14_R1).n 2
def i := (skv r14_R1).n 3
def S := (skv r14_R1).a 2
noncomputable def r15_k : Σ' (P1 : Heap → Int → Tok → Addr → Obj → Addr → Obj → Addr → (Str → Option Value) → Heap → Nat → (List Value) → (Value → Shared → Prop) → Prop), Σ' (P2 : Heap → Int → Tok → Addr → Obj → Addr → Obj → Addr → (Str → Option Value) → Heap → Nat → (List Value) → (Value → Shared → Prop) → Prop), Σ' (P3 : Heap → (List Value) → Addr → Heap → Nat → Prop), (∀ g' k t I2 oI2 C2 oC2 D4 m₂ h tk ys E', P1 g' k t I2 oI2 C2 oC2 D4 m₂ h tk ys E') → (∀ g' k t I2 oI2 C2 oC2 D4 m₂ h tk ys E', P2 g' k t I2 oI2 C2 oC2 D4 m₂ h tk ys E') → (∀ g' ys D5 h5 tk5, P3 g' ys D5 h5 tk5) → r14_k.1 ((skv r14_R1).h 0) ((skv r14_R1).h 1) ((skv r14_R1).h 2) ((skv r14_R1).n 0) tk seN i ((skv r14_R1).lv 0) ((skv r14_R1).a 0) ((skv r14_R1).o 0) ((skv r14_R1).a 1) ((skv r14_R1).o 1) S ((skv r14_R1).o 2) ((skv r14_R1).a 3) ((skv r14_R1).t 0) ((skv r14_R1).h 3) ((skv r14_R1).n 4) ((skv r14_R1).q 0) := ⟨_, _, _, by
  intro hP_1 hP_2 hP_3 
  intro Gzz0y6 Yzz0y7 hozz0y13 hcdzz0y14 hgzz0y15 hT8 Xzz0y16 Vzz0y17 Tzz0y18 Bzz0y19 TEzz0y20 TWzz0y21 hT9 hszz0y23 hlayzz0y24 hLzz0y25 hrzz0y26 hlzz0y27 hLzz0y33 razz0y34 wzz0y35 rzz0y36 hIzz0y37 hrzz0y38 hcondzz0y39 hcondzz0y40 hDzz0y41 leftzz0y52 leftzz0y53 leftzz0y54 leftzz0y55 leftzz0y56 leftzz0y57 leftzz0y58 rightzz0y59 Xzz0y60 Xzz0y61 Tzz0y62 Kzz0y63 lifted codeHdzz0y64 codeHd lzz0y65 hunp hpy d1 d2 d4 d5 d6 d8 hDn hpl hplen hsz hTT d3 hT hpb hcw hcv hKzz7y1 hK8 hwl hh1 hh2 lzz7y4 lzz7y8 hK0e hK0 hmW hmD hmN x off3 hcK hI d8' hzl hany hc6 hav haw azz12y1 dnA lnA hiA dneA neA dnB lnB hiB dneB neB dr d7 hi hoS F9 N9
  k_steps
  unfold Stop
  k_here
  k_dflt (refine' LCt.ListComp_T (cl := [(Str.ofString "turn", _), (Str.ofString "sectors", _), (Str.ofString "sector", S)]) (F₀ := by k_asm) ?cc1 ?cc2 ?cc3 ?cc4 ?cc5 ?cc6)
  case cc2 => decide
  case cc3 => rfl
  case cc4 => decide
  case cc5 => rfl
  case cc1 => exact rfl
  k_steps
  unfold Stop
  (with_reducible rename Fr _ _ _ _ => zF)
  (with_reducible rename News _ _ _ _ => zN)
  refine nameAll2 zN (fun R9 hR9 NR9 => ?_)
  have hmRd : (Rd, LCg.lst zs) ∈ R9 := by rw [← hR9]; k_mem
  refine LCt.CompSrcT.ledger (by rfl) zF NR9 hmRd (by rw [sizeLine_eq]; simp; omega) ?_
  intro g'
  refine compFilt ((placesL hN sN b).map (· % T)) (fun k => decide ((k * (seN : Int)).fdiv T = (i : Int))) R9 (by simp; omega) hI (.inr ⟨_, hmRd, rfl, _, rfl⟩) ?test ?item ?fin2
  case test =>
    intro k t I2 oI2 C2 oC2 D4 m₂ h tk ys E' hk hC hx F2 N2
    subst hR9
    have hkb : 0 ≤ k ∧ k < T := by
      obtain ⟨p, _, rfl⟩ := List.mem_map.mp hk
      exact ⟨Int.emod_nonneg _ (by omega), Int.emod_lt_of_pos _ (by omega)⟩
    have hseb := dr.se.2
    have hTb := hT.2
    clear zF zN NR9
    revert Gzz0y6 Yzz0y7 hozz0y13 hcdzz0y14 hgzz0y15 hT8 Xzz0y16 Vzz0y17 Tzz0y18 Bzz0y19 TEzz0y20 TWzz0y21 hT9 hszz0y23 hlayzz0y24 hLzz0y25 hrzz0y26 hlzz0y27 hLzz0y33 razz0y34 wzz0y35 rzz0y36 hIzz0y37 hrzz0y38 hcondzz0y39 hcondzz0y40 hDzz0y41 leftzz0y52 leftzz0y53 leftzz0y54 leftzz0y55 leftzz0y56 leftzz0y57 leftzz0y58 rightzz0y59 Xzz0y60 Xzz0y61 Tzz0y62 Kzz0y63 lifted codeHdzz0y64 codeHd lzz0y65 hunp hpy d1 d2 d4 d5 d6 d8 hDn hpl hplen hsz hTT d3 hT hpb hcw hcv hKzz7y1 hK8 hwl hh1 hh2 lzz7y4 lzz7y8 hK0e hK0 hmW hmD hmN x off3 hcK hI d8' hzl hany hc6 hav haw azz12y1 dnA lnA hiA dneA neA dnB lnB hiB dneB neB dr d7 hi hoS hk hC hx F2 hmRd N2 hkb hseb hTb
    exact hP_1 g' k t I2 oI2 C2 oC2 D4 m₂ h tk ys E'
  case item =>
    intro k t I2 oI2 C2 oC2 D4 m₂ h tk ys E' hk hC hx F2 N2
    subst hR9
    clear zF zN NR9
    revert Gzz0y6 Yzz0y7 hozz0y13 hcdzz0y14 hgzz0y15 hT8 Xzz0y16 Vzz0y17 Tzz0y18 Bzz0y19 TEzz0y20 TWzz0y21 hT9 hszz0y23 hlayzz0y24 hLzz0y25 hrzz0y26 hlzz0y27 hLzz0y33 razz0y34 wzz0y35 rzz0y36 hIzz0y37 hrzz0y38 hcondzz0y39 hcondzz0y40 hDzz0y41 leftzz0y52 leftzz0y53 leftzz0y54 leftzz0y55 leftzz0y56 leftzz0y57 leftzz0y58 rightzz0y59 Xzz0y60 Xzz0y61 Tzz0y62 Kzz0y63 lifted codeHdzz0y64 codeHd lzz0y65 hunp hpy d1 d2 d4 d5 d6 d8 hDn hpl hplen hsz hTT d3 hT hpb hcw hcv hKzz7y1 hK8 hwl hh1 hh2 lzz7y4 lzz7y8 hK0e hK0 hmW hmD hmN x off3 hcK hI d8' hzl hany hc6 hav haw azz12y1 dnA lnA hiA dneA neA dnB lnB hiB dneB neB dr d7 hi hoS hk hC hx F2 hmRd N2
    exact hP_2 g' k t I2 oI2 C2 oC2 D4 m₂ h tk ys E'
  case fin2 =>
    intro ys hys D5 h5 tk5 F5 N5 o5
    subst hR9
    clear zF zN NR9
    have hylen : (ys.toArray.size : Int) = (((placesL hN sN b).map (secP (seN : Int) T)).count (i : Int) : Nat) := by
      rw [← sec_count hT.1, ← hys.length]; simp
    have hcnt : ((((placesL hN sN b).map (secP (seN : Int) T)).count (i : Int) : Nat) : Int) ≤ 100 := by
      have := List.count_le_length (a := (i : Int)) (l := (placesL hN sN b).map (secP (seN : Int) T))
      rw [List.length_map, hpl] at this
      omega
    revert Gzz0y6 Yzz0y7 hozz0y13 hcdzz0y14 hgzz0y15 hT8 Xzz0y16 Vzz0y17 Tzz0y18 Bzz0y19 TEzz0y20 TWzz0y21 hT9 hszz0y23 hlayzz0y24 hLzz0y25 hrzz0y26 hlzz0y27 hLzz0y33 razz0y34 wzz0y35 rzz0y36 hIzz0y37 hrzz0y38 hcondzz0y39 hcondzz0y40 hDzz0y41 leftzz0y52 leftzz0y53 leftzz0y54 leftzz0y55 leftzz0y56 leftzz0y57 leftzz0y58 rightzz0y59 Xzz0y60 Xzz0y61 Tzz0y62 Kzz0y63 lifted codeHdzz0y64 codeHd lzz0y65 hunp hpy d1 d2 d4 d5 d6 d8 hDn hpl hplen hsz hTT d3 hT hpb hcw hcv hKzz7y1 hK8 hwl hh1 hh2 lzz7y4 lzz7y8 hK0e hK0 hmW hmD hmN x off3 hcK hI d8' hzl hany hc6 hav haw azz12y1 dnA lnA hiA dneA neA dnB lnB hiB dneB neB dr d7 hi hoS hys F5 hmRd N5 o5 hylen hcnt
    exact hP_3 g' ys D5 h5 tk5⟩
noncomputable def r15_R1 (z : Sk) : Prop := r15_k.1 (z.h 0) (z.i 0) (z.t 0) (z.a 0) (z.o 0) (z.a 1) (z.o 1) (z.a 2) (z.m 0) (z.h 1) (z.n 0) (z.lv 0) (z.q 0)
namespace r15_c1
theorem r17 : r15_k.1 ((skv r15_R1).h 0) ((skv r15_R1).i 0) ((skv r15_R1).t 0) ((skv r15_R1).a 0) ((skv r15_R1).o 0) ((skv r15_R1).a 1) ((skv r15_R1).o 1) ((skv r15_R1).a 2) ((skv r15_R1).m 0) ((skv r15_R1).h 1) ((skv r15_R1).n 0) ((skv r15_R1).lv 0) ((skv r15_R1).q 0) := by
  intro Gzz0y6 Yzz0y7 hozz0y13 hcdzz0y14 hgzz0y15 hT8 Xzz0y16 Vzz0y17 Tzz0y18 Bzz0y19 TEzz0y20 TWzz0y21 hT9 hszz0y23 hlayzz0y24 hLzz0y25 hrzz0y26 hlzz0y27 hLzz0y33 razz0y34 wzz0y35 rzz0y36 hIzz0y37 hrzz0y38 hcondzz0y39 hcondzz0y40 hDzz0y41 leftzz0y52 leftzz0y53 leftzz0y54 leftzz0y55 leftzz0y56 leftzz0y57 leftzz0y58 rightzz0y59 Xzz0y60 Xzz0y61 Tzz0y62 Kzz0y63 lifted codeHdzz0y64 codeHd lzz0y65 hunp hpy d1 d2 d4 d5 d6 d8 hDn hpl hplen hsz hTT d3 hT hpb hcw hcv hKzz7y1 hK8 hwl hh1 hh2 lzz7y4 lzz7y8 hK0e hK0 hmW hmD hmN x off3 hcK hI d8' hzl hany hc6 hav haw azz12y1 dnA lnA hiA dneA neA dnB lnB hiB dneB neB dr d7 hi hoS hk hC hx F2 hmRd N2 hkb hseb hTb
  k_steps
  (with_reducible rename Fr _ _ _ _ => zF)
  (with_reducible rename News _ _ _ _ => zN)
  exact ⟨rfl, _, _, rfl, zF, zN⟩
end r15_c1
noncomputable def r15_R2 (z : Sk) : Prop := r15_k.2.1 (z.h 0) (z.i 0) (z.t 0) (z.a 0) (z.o 0) (z.a 1) (z.o 1) (z.a 2) (z.m 0) (z.h 1) (z.n 0) (z.lv 0) (z.q 0)
namespace r15_c2
theorem r18 : r15_k.2.1 ((skv r15_R2).h 0) ((skv r15_R2).i 0) ((skv r15_R2).t 0) ((skv r15_R2).a 0) ((skv r15_R2).o 0) ((skv r15_R2).a 1) ((skv r15_R2).o 1) ((skv r15_R2).a 2) ((skv r15_R2).m 0) ((skv r15_R2).h 1) ((skv r15_R2).n 0) ((skv r15_R2).lv 0) ((skv r15_R2).q 0) := by
  intro Gzz0y6 Yzz0y7 hozz0y13 hcdzz0y14 hgzz0y15 hT8 Xzz0y16 Vzz0y17 Tzz0y18 Bzz0y19 TEzz0y20 TWzz0y21 hT9 hszz0y23 hlayzz0y24 hLzz0y25 hrzz0y26 hlzz0y27 hLzz0y33 razz0y34 wzz0y35 rzz0y36 hIzz0y37 hrzz0y38 hcondzz0y39 hcondzz0y40 hDzz0y41 leftzz0y52 leftzz0y53 leftzz0y54 leftzz0y55 leftzz0y56 leftzz0y57 leftzz0y58 rightzz0y59 Xzz0y60 Xzz0y61 Tzz0y62 Kzz0y63 lifted codeHdzz0y64 codeHd lzz0y65 hunp hpy d1 d2 d4 d5 d6 d8 hDn hpl hplen hsz hTT d3 hT hpb hcw hcv hKzz7y1 hK8 hwl hh1 hh2 lzz7y4 lzz7y8 hK0e hK0 hmW hmD hmN x off3 hcK hI d8' hzl hany hc6 hav haw azz12y1 dnA lnA hiA dneA neA dnB lnB hiB dneB neB dr d7 hi hoS hk hC hx F2 hmRd N2
  k_steps
  (with_reducible rename Fr _ _ _ _ => zF)
  (with_reducible rename News _ _ _ _ => zN)
  exact ⟨_, _, _, rfl, rfl, zF, zN⟩
end r15_c2
noncomputable def r15_R3 (z : Sk) : Prop := r15_k.2.2.1 (z.h 0) (z.lv 0) (z.a 0) (z.h 1) (z.n 0)
namespace r15_c3
theorem r19 : r15_k.2.2.1 ((skv r15_R3).h 0) ((skv r15_R3).lv 0) ((skv r15_R3).a 0) ((skv r15_R3).h 1) ((skv r15_R3).n 0) := by
  intro Gzz0y6 Yzz0y7 hozz0y13 hcdzz0y14 hgzz0y15 hT8 Xzz0y16 Vzz0y17 Tzz0y18 Bzz0y19 TEzz0y20 TWzz0y21 hT9 hszz0y23 hlayzz0y24 hLzz0y25 hrzz0y26 hlzz0y27 hLzz0y33 razz0y34 wzz0y35 rzz0y36 hIzz0y37 hrzz0y38 hcondzz0y39 hcondzz0y40 hDzz0y41 leftzz0y52 leftzz0y53 leftzz0y54 leftzz0y55 leftzz0y56 leftzz0y57 leftzz0y58 rightzz0y59 Xzz0y60 Xzz0y61 Tzz0y62 Kzz0y63 lifted codeHdzz0y64 codeHd lzz0y65 hunp hpy d1 d2 d4 d5 d6 d8 hDn hpl hplen hsz hTT d3 hT hpb hcw hcv hKzz7y1 hK8 hwl hh1 hh2 lzz7y4 lzz7y8 hK0e hK0 hmW hmD hmN x off3 hcK hI d8' hzl hany hc6 hav haw azz12y1 dnA lnA hiA dneA neA dnB lnB hiB dneB neB dr d7 hi hoS hys F5 hmRd N5 o5 hylen hcnt
  k_steps
  (with_reducible rename Fr _ _ _ _ => zF)
  (with_reducible rename News _ _ _ _ => zN)
  exact ⟨_, _, _, rfl, rfl, zF, fun p hp => zN p (.tail _ hp)⟩
end r15_c3
theorem r15  : r14_k.1 ((skv r14_R1).h 0) ((skv r14_R1).h 1) ((skv r14_R1).h 2) ((skv r14_R1).n 0) tk seN i ((skv r14_R1).lv 0) ((skv r14_R1).a 0) ((skv r14_R1).o 0) ((skv r14_R1).a 1) ((skv r14_R1).o 1) S ((skv r14_R1).o 2) ((skv r14_R1).a 3) ((skv r14_R1).t 0) ((skv r14_R1).h 3) ((skv r14_R1).n 4) ((skv r14_R1).q 0) :=
  r15_k.2.2.2 (fun g' k t I2 oI2 C2 oC2 D4 m₂ h tk ys E' => skva r15_R1 r15_c1.r17 (sk_h g' <| sk_i k <| sk_t t <| sk_a I2 <| sk_o oI2 <| sk_a C2 <| sk_o oC2 <| sk_a D4 <| sk_m m₂ <| sk_h h <| sk_n tk <| sk_lv ys <| sk_q E' <| dS)) (fun g' k t I2 oI2 C2 oC2 D4 m₂ h tk ys E' => skva r15_R2 r15_c2.r18 (sk_h g' <| sk_i k <| sk_t t <| sk_a I2 <| sk_o oI2 <| sk_a C2 <| sk_o oC2 <| sk_a D4 <| sk_m m₂ <| sk_h h <| sk_n tk <| sk_lv ys <| sk_q E' <| dS)) (fun g' ys D5 h5 tk5 => skva r15_R3 r15_c3.r19 (sk_h g' <| sk_lv ys <| sk_a D5 <| sk_h h5 <| sk_n tk5 <| dS)) 
end r14_c1
noncomputable def r14_R2 (z : Sk) : Prop := r14_k.2.1 (z.h 0) (z.h 1) (z.h 2) (z.n 0) (z.n 1) (z.n 2) (z.a 0) (z.lv 0) (z.h 3) (z.n 3)
namespace r14_c2
def seN := (skv r14_R2).n 2
def Dh := (skv r14_R2).a 0
def zs2 := (skv r14_R2).lv 0
noncomputable def r16_k : Σ' (P1 : Heap → Nat → Prop), (∀ hzP tzP, P1 hzP tzP) → r14_k.2.1 ((skv r14_R2).h 0) ((skv r14_R2).h 1) ((skv r14_R2).h 2) ((skv r14_R2).n 0) ((skv r14_R2).n 1) seN Dh zs2 ((skv r14_R2).h 3) ((skv r14_R2).n 3) := ⟨_, by
  intro hP_1 
  intro Gzz0y6 Yzz0y7 hozz0y13 hcdzz0y14 hgzz0y15 hT8 Xzz0y16 Vzz0y17 Tzz0y18 Bzz0y19 TEzz0y20 TWzz0y21 hT9 hszz0y23 hlayzz0y24 hLzz0y25 hrzz0y26 hlzz0y27 hLzz0y33 razz0y34 wzz0y35 rzz0y36 hIzz0y37 hrzz0y38 hcondzz0y39 hcondzz0y40 hDzz0y41 leftzz0y52 leftzz0y53 leftzz0y54 leftzz0y55 leftzz0y56 leftzz0y57 leftzz0y58 rightzz0y59 Xzz0y60 Xzz0y61 Tzz0y62 Kzz0y63 lifted codeHdzz0y64 codeHd lzz0y65 hunp hpy d1 d2 d4 d5 d6 d8 hDn hpl hplen hsz hTT d3 hT hpb hcw hcv hKzz7y1 hK8 hwl hh1 hh2 lzz7y4 lzz7y8 hK0e hK0 hmW hmD hmN x off3 hcK hI d8' hzl hany hc6 hav haw azz12y1 dnA lnA hiA dneA neA dnB lnB hiB dneB neB dr d7 hI2 F9 N9 off9 h6 hS neH
  k_steps
  unfold Stop
  (with_reducible rename Fr _ _ _ _ => zF)
  (with_reducible rename News _ _ _ _ => zN)
  have znP := newsTab zN (by k_mem) (by k_mem)
  k_dflt (refine' deal_T1 _ c1 oc1 vs1 tq1 c2 oc2 vs2 tq2 dlA ysA.toArray ((List.range 6).map fun k : Nat => ((placesL hN sN b).map (secP ((6 : Nat) : Int) T)).count (k : Int)) _ _ _ _ _ _ _ _ _ _ _ _ _ _ _ _ _ _ _ _ ?k1 ?k2 ?k3 ?k4 ?k5 ?k6 ?kC1 ?kC2 ?k8 ?k9 ?k10 ?_; (case k1 => k_asm); (case k2 => k_asm); (case k3 => k_asm); (case k4 => exact znP); (case k5 => k_asm); (case k6 => exact rfl); (case kC1 => assumption); (case kC2 => assumption); (case k8 => exact ⟨x.fa zN (by k_mem) (by k_mem) (by k_mem) (by k_mem), News.isList zN (by k_mem), neA.1, neA.2, hiA, h6⟩); (case k9 => ktr_room); (case k10 => ktr_units); k_whole)
  intro hzP tzP kpP
  have FP := frKeep zF kpP
  have NP := newsKeep zN kpP
  clear zF zN kpP znP
  revert Gzz0y6 Yzz0y7 hozz0y13 hcdzz0y14 hgzz0y15 hT8 Xzz0y16 Vzz0y17 Tzz0y18 Bzz0y19 TEzz0y20 TWzz0y21 hT9 hszz0y23 hlayzz0y24 hLzz0y25 hrzz0y26 hlzz0y27 hLzz0y33 razz0y34 wzz0y35 rzz0y36 hIzz0y37 hrzz0y38 hcondzz0y39 hcondzz0y40 hDzz0y41 leftzz0y52 leftzz0y53 leftzz0y54 leftzz0y55 leftzz0y56 leftzz0y57 leftzz0y58 rightzz0y59 Xzz0y60 Xzz0y61 Tzz0y62 Kzz0y63 lifted codeHdzz0y64 codeHd lzz0y65 hunp hpy d1 d2 d4 d5 d6 d8 hDn hpl hplen hsz hTT d3 hT hpb hcw hcv hKzz7y1 hK8 hwl hh1 hh2 lzz7y4 lzz7y8 hK0e hK0 hmW hmD hmN x off3 hcK hI d8' hzl hany hc6 hav haw azz12y1 dnA lnA hiA dneA neA dnB lnB hiB dneB neB dr d7 hI2 off9 h6 hS neH FP NP
  exact hP_1 hzP tzP⟩
noncomputable def r16_R (z : Sk) : Prop := r16_k.1 (z.h 0) (z.n 0)
namespace r16_c
noncomputable def r20_k : Σ' (P1 : Heap → Nat → Prop), (∀ hzQ tzQ, P1 hzQ tzQ) → r16_k.1 ((skv r16_R).h 0) ((skv r16_R).n 0) := ⟨_, by
  intro hP_1 
  intro Gzz0y6 Yzz0y7 hozz0y13 hcdzz0y14 hgzz0y15 hT8 Xzz0y16 Vzz0y17 Tzz0y18 Bzz0y19 TEzz0y20 TWzz0y21 hT9 hszz0y23 hlayzz0y24 hLzz0y25 hrzz0y26 hlzz0y27 hLzz0y33 razz0y34 wzz0y35 rzz0y36 hIzz0y37 hrzz0y38 hcondzz0y39 hcondzz0y40 hDzz0y41 leftzz0y52 leftzz0y53 leftzz0y54 leftzz0y55 leftzz0y56 leftzz0y57 leftzz0y58 rightzz0y59 Xzz0y60 Xzz0y61 Tzz0y62 Kzz0y63 lifted codeHdzz0y64 codeHd lzz0y65 hunp hpy d1 d2 d4 d5 d6 d8 hDn hpl hplen hsz hTT d3 hT hpb hcw hcv hKzz7y1 hK8 hwl hh1 hh2 lzz7y4 lzz7y8 hK0e hK0 hmW hmD hmN x off3 hcK hI d8' hzl hany hc6 hav haw azz12y1 dnA lnA hiA dneA neA dnB lnB hiB dneB neB dr d7 hI2 off9 h6 hS neH FP NP
  k_steps
  unfold Stop
  (with_reducible rename Fr _ _ _ _ => zF)
  (with_reducible rename News _ _ _ _ => zN)
  have znQ := newsTab zN (by k_mem) (by k_mem)
  k_dflt (refine' deal_T1 _ c1 oc1 vs1 tq1 c2 oc2 vs2 tq2 dlB ysB.toArray ((List.range 6).map fun k : Nat => ((placesL hN sN b).map (secP ((6 : Nat) : Int) T)).count (k : Int)) _ _ _ _ _ _ _ _ _ _ _ _ _ _ _ _ _ _ _ _ ?k1 ?k2 ?k3 ?k4 ?k5 ?k6 ?kC1 ?kC2 ?k8 ?k9 ?k10 ?_; (case k1 => k_asm); (case k2 => k_asm); (case k3 => k_asm); (case k4 => exact znQ); (case k5 => k_asm); (case k6 => exact rfl); (case kC1 => assumption); (case kC2 => assumption); (case k8 => exact ⟨x.fa zN (by k_mem) (by k_mem) (by k_mem) (by k_mem), News.isList zN (by k_mem), neB.1, neB.2, hiB, h6⟩); (case k9 => ktr_room); (case k10 => ktr_units); k_whole)
  intro hzQ tzQ kpQ
  have FQ := frKeep zF kpQ
  have NQ := newsKeep zN kpQ
  clear zF zN kpQ znQ
  revert Gzz0y6 Yzz0y7 hozz0y13 hcdzz0y14 hgzz0y15 hT8 Xzz0y16 Vzz0y17 Tzz0y18 Bzz0y19 TEzz0y20 TWzz0y21 hT9 hszz0y23 hlayzz0y24 hLzz0y25 hrzz0y26 hlzz0y27 hLzz0y33 razz0y34 wzz0y35 rzz0y36 hIzz0y37 hrzz0y38 hcondzz0y39 hcondzz0y40 hDzz0y41 leftzz0y52 leftzz0y53 leftzz0y54 leftzz0y55 leftzz0y56 leftzz0y57 leftzz0y58 rightzz0y59 Xzz0y60 Xzz0y61 Tzz0y62 Kzz0y63 lifted codeHdzz0y64 codeHd lzz0y65 hunp hpy d1 d2 d4 d5 d6 d8 hDn hpl hplen hsz hTT d3 hT hpb hcw hcv hKzz7y1 hK8 hwl hh1 hh2 lzz7y4 lzz7y8 hK0e hK0 hmW hmD hmN x off3 hcK hI d8' hzl hany hc6 hav haw azz12y1 dnA lnA hiA dneA neA dnB lnB hiB dneB neB dr d7 hI2 off9 h6 hS neH FQ NQ
  exact hP_1 hzQ tzQ⟩
noncomputable def r20_R (z : Sk) : Prop := r20_k.1 (z.h 0) (z.n 0)
namespace r20_c
noncomputable def r21_k : Σ' (P1 : Heap → Nat → Prop), (∀ hzS tzS, P1 hzS tzS) → r20_k.1 ((skv r20_R).h 0) ((skv r20_R).n 0) := ⟨_, by
  intro hP_1 
  intro Gzz0y6 Yzz0y7 hozz0y13 hcdzz0y14 hgzz0y15 hT8 Xzz0y16 Vzz0y17 Tzz0y18 Bzz0y19 TEzz0y20 TWzz0y21 hT9 hszz0y23 hlayzz0y24 hLzz0y25 hrzz0y26 hlzz0y27 hLzz0y33 razz0y34 wzz0y35 rzz0y36 hIzz0y37 hrzz0y38 hcondzz0y39 hcondzz0y40 hDzz0y41 leftzz0y52 leftzz0y53 leftzz0y54 leftzz0y55 leftzz0y56 leftzz0y57 leftzz0y58 rightzz0y59 Xzz0y60 Xzz0y61 Tzz0y62 Kzz0y63 lifted codeHdzz0y64 codeHd lzz0y65 hunp hpy d1 d2 d4 d5 d6 d8 hDn hpl hplen hsz hTT d3 hT hpb hcw hcv hKzz7y1 hK8 hwl hh1 hh2 lzz7y4 lzz7y8 hK0e hK0 hmW hmD hmN x off3 hcK hI d8' hzl hany hc6 hav haw azz12y1 dnA lnA hiA dneA neA dnB lnB hiB dneB neB dr d7 hI2 off9 h6 hS neH FQ NQ
  k_steps
  unfold Stop
  (with_reducible rename Fr _ _ _ _ => zF)
  (with_reducible rename News _ _ _ _ => zN)
  have znS := newsTab zN (by k_mem) (by k_mem)
  k_dflt (refine' deal_T1 _ c1 oc1 vs1 tq1 c2 oc2 vs2 tq2 Dh zs2.toArray ((List.range seN).map fun k : Nat => ((placesL hN sN b).map (secP (seN : Int) T)).count (k : Int)) _ _ _ _ _ _ _ _ _ _ _ _ _ _ _ _ _ _ _ _ ?k1 ?k2 ?k3 ?k4 ?k5 ?k6 ?kC1 ?kC2 ?k8 ?k9 ?k10 ?_; (case k1 => k_asm); (case k2 => k_asm); (case k3 => k_asm); (case k4 => exact znS); (case k5 => k_asm); (case k6 => exact rfl); (case kC1 => assumption); (case kC2 => assumption); (case k8 => exact ⟨x.fa zN (by k_mem) (by k_mem) (by k_mem) (by k_mem), News.isList zN (by k_mem), neH.1, neH.2, hI2, hS⟩); (case k9 => ktr_room); (case k10 => ktr_units); k_whole)
  intro hzS tzS kpS
  have FS := frKeep zF kpS
  have NS := newsKeep zN kpS
  clear zF zN kpS znS
  revert Gzz0y6 Yzz0y7 hozz0y13 hcdzz0y14 hgzz0y15 hT8 Xzz0y16 Vzz0y17 Tzz0y18 Bzz0y19 TEzz0y20 TWzz0y21 hT9 hszz0y23 hlayzz0y24 hLzz0y25 hrzz0y26 hlzz0y27 hLzz0y33 razz0y34 wzz0y35 rzz0y36 hIzz0y37 hrzz0y38 hcondzz0y39 hcondzz0y40 hDzz0y41 leftzz0y52 leftzz0y53 leftzz0y54 leftzz0y55 leftzz0y56 leftzz0y57 leftzz0y58 rightzz0y59 Xzz0y60 Xzz0y61 Tzz0y62 Kzz0y63 lifted codeHdzz0y64 codeHd lzz0y65 hunp hpy d1 d2 d4 d5 d6 d8 hDn hpl hplen hsz hTT d3 hT hpb hcw hcv hKzz7y1 hK8 hwl hh1 hh2 lzz7y4 lzz7y8 hK0e hK0 hmW hmD hmN x off3 hcK hI d8' hzl hany hc6 hav haw azz12y1 dnA lnA hiA dneA neA dnB lnB hiB dneB neB dr d7 hI2 off9 h6 hS neH FS NS
  exact hP_1 hzS tzS⟩
noncomputable def r21_R (z : Sk) : Prop := r21_k.1 (z.h 0) (z.n 0)
namespace r21_c
theorem r22 : r21_k.1 ((skv r21_R).h 0) ((skv r21_R).n 0) := by
  intro Gzz0y6 Yzz0y7 hozz0y13 hcdzz0y14 hgzz0y15 hT8 Xzz0y16 Vzz0y17 Tzz0y18 Bzz0y19 TEzz0y20 TWzz0y21 hT9 hszz0y23 hlayzz0y24 hLzz0y25 hrzz0y26 hlzz0y27 hLzz0y33 razz0y34 wzz0y35 rzz0y36 hIzz0y37 hrzz0y38 hcondzz0y39 hcondzz0y40 hDzz0y41 leftzz0y52 leftzz0y53 leftzz0y54 leftzz0y55 leftzz0y56 leftzz0y57 leftzz0y58 rightzz0y59 Xzz0y60 Xzz0y61 Tzz0y62 Kzz0y63 lifted codeHdzz0y64 codeHd lzz0y65 hunp hpy d1 d2 d4 d5 d6 d8 hDn hpl hplen hsz hTT d3 hT hpb hcw hcv hKzz7y1 hK8 hwl hh1 hh2 lzz7y4 lzz7y8 hK0e hK0 hmW hmD hmN x off3 hcK hI d8' hzl hany hc6 hav haw azz12y1 dnA lnA hiA dneA neA dnB lnB hiB dneB neB dr d7 hI2 off9 h6 hS neH FS NS
  k_steps
end r21_c
theorem r21  : r20_k.1 ((skv r20_R).h 0) ((skv r20_R).n 0) :=
  r21_k.2 (fun hzS tzS => skva r21_R r21_c.r22 (sk_h hzS <| sk_n tzS <| dS)) 
end r20_c
theorem r20  : r16_k.1 ((skv r16_R).h 0) ((skv r16_R).n 0) :=
  r20_k.2 (fun hzQ tzQ => skva r20_R r20_c.r21 (sk_h hzQ <| sk_n tzQ <| dS)) 
end r16_c
theorem r16  : r14_k.2.1 ((skv r14_R2).h 0) ((skv r14_R2).h 1) ((skv r14_R2).h 2) ((skv r14_R2).n 0) ((skv r14_R2).n 1) seN Dh zs2 ((skv r14_R2).h 3) ((skv r14_R2).n 3) :=
  r16_k.2 (fun hzP tzP => skva r16_R r16_c.r20 (sk_h hzP <| sk_n tzP <| dS)) 
end r14_c2
theorem r14  : r13_k.1 ((skv r13_R).h 0) ((skv r13_R).h 1) ((skv r13_R).h 2) tk ((skv r13_R).a 0) dlB ysB ((skv r13_R).n 1) ((skv r13_R).t 0) ((skv r13_R).h 3) ((skv r13_R).n 2) :=
  r14_k.2.2 (fun hzz14y1 hzz14y2 hzz14y3 tkzz14y4 tk seN i zs2 I oI C oC S oS D2 u9 h9 tk9 E9 => skva r14_R1 r14_c1.r15 (sk_h hzz14y1 <| sk_h hzz14y2 <| sk_h hzz14y3 <| sk_n tkzz14y4 <| sk_n tk <| sk_n seN <| sk_n i <| sk_lv zs2 <| sk_a I <| sk_o oI <| sk_a C <| sk_o oC <| sk_a S <| sk_o oS <| sk_a D2 <| sk_t u9 <| sk_h h9 <| sk_n tk9 <| sk_q E9 <| dS)) (fun hzz14y1 hzz14y2 hzz14y3 tkzz14y4 tk seN Dh zs2 h9 tk9 => skva r14_R2 r14_c2.r16 (sk_h hzz14y1 <| sk_h hzz14y2 <| sk_h hzz14y3 <| sk_n tkzz14y4 <| sk_n tk <| sk_n seN <| sk_a Dh <| sk_lv zs2 <| sk_h h9 <| sk_n tk9 <| dS)) 
end r13_c
theorem r13  : r10_k.1 tk ((skv r10_R).a 0) dlA ysA ((skv r10_R).n 1) ((skv r10_R).t 0) ((skv r10_R).h 0) ((skv r10_R).n 2) :=
  r13_k.2 (fun hzz13y1 hzz13y2 hzz13y3 tk dB dlB ysB nB tB hzB tzB => skva r13_R r13_c.r14 (sk_h hzz13y1 <| sk_h hzz13y2 <| sk_h hzz13y3 <| sk_n tk <| sk_a dB <| sk_a dlB <| sk_lv ysB <| sk_n nB <| sk_t tB <| sk_h hzB <| sk_n tzB <| dS)) 
end r10_c
theorem r10  : r8_k.2.1 Rd zs ((skv r8_R2).h 0) ((skv r8_R2).n 0) c1 oc1 vs1 tq1 c2 oc2 vs2 tq2 h5 ((skv r8_R2).o 2) :=
  r10_k.2 (fun tk dA dlA ysA nA tA hzA tzA => skva r10_R r10_c.r13 (sk_n tk <| sk_a dA <| sk_a dlA <| sk_lv ysA <| sk_n nA <| sk_t tA <| sk_h hzA <| sk_n tzA <| dS)) 
end r8_c2
theorem r8  : r7_k.1 ((skv r7_R).a 0) ((skv r7_R).h 0) ((skv r7_R).a 1) ((skv r7_R).h 1) K0 :=
  r8_k.2.2 (fun se b9 C D3 oC m₂ h2 tk2 E' q1 q2 q3 q4 q5 p tp d ta tb tc kk => skva r8_R1 r8_c1.r9 (sk_i se <| sk_a b9 <| sk_a C <| sk_a D3 <| sk_o oC <| sk_m m₂ <| sk_h h2 <| sk_n tk2 <| sk_q E' <| sk_o q1 <| sk_o q2 <| sk_o q3 <| sk_o q4 <| sk_o q5 <| sk_i p <| sk_t tp <| sk_a d <| sk_t ta <| sk_t tb <| sk_t tc <| sk_n kk <| dS)) (fun Rd zs h3 tk3 c1 oc1 vs1 tq1 c2 oc2 vs2 tq2 h5 o8' => skva r8_R2 r8_c2.r10 (sk_a Rd <| sk_lv zs <| sk_h h3 <| sk_n tk3 <| sk_a c1 <| sk_o oc1 <| sk_av vs1 <| sk_t tq1 <| sk_a c2 <| sk_o oc2 <| sk_av vs2 <| sk_t tq2 <| sk_h h5 <| sk_o o8' <| dS)) 
end r7_c
theorem r7  : r5_k.2.1 h tk Wl ws nv2 :=
  r7_k.2 (fun lzz7y2 hzz7y3 lzz7y5 hzz7y6 K0 => skva r7_R r7_c.r8 (sk_a lzz7y2 <| sk_h hzz7y3 <| sk_a lzz7y5 <| sk_h hzz7y6 <| sk_ao K0 <| dS)) 
end r5_c2
theorem r5  : r2_k.2.1 R h tk V vs nv :=
  r5_k.2.2 (fun se Q1 g' i p t I oI C oC D2 m₂ h2 tk2 nv2 ys E' => skall _ r5_R1 r5_c1.r6 ((sk_i se <| sk_h g' <| sk_n i <| sk_i p <| sk_t t <| sk_a I <| sk_o oI <| sk_a C <| sk_o oC <| sk_a D2 <| sk_m m₂ <| sk_h h2 <| sk_n tk2 <| sk_ao nv2 <| sk_lv ys <| sk_q E' <| dS), Q1)) (fun h tk Wl ws nv2 => skva r5_R2 r5_c2.r7 (sk_h h <| sk_n tk <| sk_a Wl <| sk_lv ws <| sk_ao nv2 <| dS)) 
end r2_c2
theorem r2  : law_walk_k.2.1 ((skv law_walk_R2).w 0) ((skv law_walk_R2).s 0) ((skv law_walk_R2).s 1) ((skv law_walk_R2).m 0) ((skv law_walk_R2).m 1) ((skv law_walk_R2).a 0) ((skv law_walk_R2).o 0) ((skv law_walk_R2).v 0) ((skv law_walk_R2).v 1) ((skv law_walk_R2).v 2) ((skv law_walk_R2).li 0) ((skv law_walk_R2).la 0) ((skv law_walk_R2).la 1) ((skv law_walk_R2).a 1) ((skv law_walk_R2).lv 0) ((skv law_walk_R2).la 2) ((skv law_walk_R2).h 0) ((skv law_walk_R2).n 0) ((skv law_walk_R2).o 1) ((skv law_walk_R2).o 2) ((skv law_walk_R2).o 3) ((skv law_walk_R2).o 4) ((skv law_walk_R2).o 5) ((skv law_walk_R2).o 6) ((skv law_walk_R2).o 7) ((skv law_walk_R2).o 8) h tk hN sN b sh lv lt ((skv law_walk_R2).m 2) D pys ((skv law_walk_R2).o 9) ((skv law_walk_R2).o 10) o3 ((skv law_walk_R2).o 12) o5 ((skv law_walk_R2).o 14) ((skv law_walk_R2).o 15) ((skv law_walk_R2).o 16) ((skv law_walk_R2).t 0) ((skv law_walk_R2).t 1) ((skv law_walk_R2).t 2) ((skv law_walk_R2).t 3) ((skv law_walk_R2).t 4) ((skv law_walk_R2).t 5) ((skv law_walk_R2).t 6) ((skv law_walk_R2).i 4) T :=
  r2_k.2.2 (fun se R Q1 g' i p t I oI C oC D2 m₂ h2 tk2 nv ys E' => skall _ r2_R1 r2_c1.r4 ((sk_i se <| sk_ao R <| sk_h g' <| sk_n i <| sk_i p <| sk_t t <| sk_a I <| sk_o oI <| sk_a C <| sk_o oC <| sk_a D2 <| sk_m m₂ <| sk_h h2 <| sk_n tk2 <| sk_ao nv <| sk_lv ys <| sk_q E' <| dS), Q1)) (fun R h tk V vs nv => skva r2_R2 r2_c2.r5 (sk_ao R <| sk_h h <| sk_n tk <| sk_a V <| sk_lv vs <| sk_ao nv <| dS)) 
end law_walk_c2
theorem law_walk  : hd.2.1 :=
  law_walk_k.2.2 (fun wzz0y1 szz0y2 szz0y3 mgzz0y4 mbzz0y5 fazz0y8 ozz0y9 pmzz0y10 cdzz0y11 doczz0y12 wzz0y22 wzz0y28 wzz0y29 wzz0y30 wzz0y31 wzz0y32 hzz0y42 tkzz0y43 wzz0y44 wzz0y45 wzz0y46 wzz0y47 wzz0y48 wzz0y49 wzz0y50 wzz0y51 Q1 => skall _ law_walk_R1 law_walk_c1.r1 ((sk_w wzz0y1 <| sk_s szz0y2 <| sk_s szz0y3 <| sk_m mgzz0y4 <| sk_m mbzz0y5 <| sk_a fazz0y8 <| sk_o ozz0y9 <| sk_v pmzz0y10 <| sk_v cdzz0y11 <| sk_v doczz0y12 <| sk_li wzz0y22 <| sk_la wzz0y28 <| sk_la wzz0y29 <| sk_a wzz0y30 <| sk_lv wzz0y31 <| sk_la wzz0y32 <| sk_h hzz0y42 <| sk_n tkzz0y43 <| sk_o wzz0y44 <| sk_o wzz0y45 <| sk_o wzz0y46 <| sk_o wzz0y47 <| sk_o wzz0y48 <| sk_o wzz0y49 <| sk_o wzz0y50 <| sk_o wzz0y51 <| dS), Q1)) (fun wzz0y1 szz0y2 szz0y3 mgzz0y4 mbzz0y5 fazz0y8 ozz0y9 pmzz0y10 cdzz0y11 doczz0y12 wzz0y22 wzz0y28 wzz0y29 wzz0y30 wzz0y31 wzz0y32 hzz0y42 tkzz0y43 wzz0y44 wzz0y45 wzz0y46 wzz0y47 wzz0y48 wzz0y49 wzz0y50 wzz0y51 h tk hN sN b sh lv lt Mr D pys o1 o2 o3 o4 o5 o6 o7 o8 u1 u2 u3 u4 u5 u6 u7 x1 T => skva law_walk_R2 law_walk_c2.r2 (sk_w wzz0y1 <| sk_s szz0y2 <| sk_s szz0y3 <| sk_m mgzz0y4 <| sk_m mbzz0y5 <| sk_a fazz0y8 <| sk_o ozz0y9 <| sk_v pmzz0y10 <| sk_v cdzz0y11 <| sk_v doczz0y12 <| sk_li wzz0y22 <| sk_la wzz0y28 <| sk_la wzz0y29 <| sk_a wzz0y30 <| sk_lv wzz0y31 <| sk_la wzz0y32 <| sk_h hzz0y42 <| sk_n tkzz0y43 <| sk_o wzz0y44 <| sk_o wzz0y45 <| sk_o wzz0y46 <| sk_o wzz0y47 <| sk_o wzz0y48 <| sk_o wzz0y49 <| sk_o wzz0y50 <| sk_o wzz0y51 <| sk_h h <| sk_n tk <| sk_n hN <| sk_n sN <| sk_i b <| sk_i sh <| sk_i lv <| sk_i lt <| sk_m Mr <| sk_a D <| sk_lv pys <| sk_o o1 <| sk_o o2 <| sk_o o3 <| sk_o o4 <| sk_o o5 <| sk_o o6 <| sk_o o7 <| sk_o o8 <| sk_t u1 <| sk_t u2 <| sk_t u3 <| sk_t u4 <| sk_t u5 <| sk_t u6 <| sk_t u7 <| sk_i x1 <| sk_i T <| dS)) 
end Mine.Internal
end
noncomputable section -- KEnd
theorem Mine.Internal.wTopOff29 : True := by w_top off; trivial
open PySem PySem.W PyProof.Rows
set_option maxRecDepth 100000
set_option maxHeartbeats 8000000
namespace Mine
theorem lawEnd.tw10801275956075255572 : True := trivial
theorem lawEnd.tw14423056327938833769 : True := trivial
theorem lawEnd.tw15030639661423668963 : True := trivial
theorem lawEnd.tw15358247764049857947 : True := trivial
theorem lawEnd.tw15708493099025875312 : True := trivial
theorem lawEnd.tw15949411113543827408 : True := trivial
theorem lawEnd.tw17914249775419441167 : True := trivial
theorem lawEnd.tw2629533504853875466 : True := trivial
theorem lawEnd.tw3987356349606914511 : True := trivial
theorem lawEnd.tw4420498077361128227 : True := trivial
theorem lawEnd.tw4757118712576074613 : True := trivial
theorem lawEnd.tw6373700676187188923 : True := trivial
theorem lawEnd.tw713151812262077699 : True := trivial
theorem lawEnd.tw7342770128887439091 : True := trivial
theorem lawEnd.tw7342841569899069880 : True := trivial
theorem lawEnd.tw782276961416398186 : True := trivial
theorem lawEnd.tw8472867037716043739 : True := trivial
theorem lawEnd.tw7850768517075392672 : True := trivial
theorem lawEnd.tw16812497667252227360 : True := trivial
theorem lawEnd.tw11861539379296042912 : True := trivial
theorem lawEnd.tw6609773988942040129 : True := trivial
theorem lawEnd.tw700120803736832609 : True := trivial
theorem lawEnd.tw1245351778688725665 : True := trivial
theorem lawEnd.tw6262731476898650785 : True := trivial
theorem lawEnd.tw4272008889892654753 : True := trivial
theorem lawEnd.tw277074542938603233 : True := trivial
theorem lawEnd.tw15581858594454428577 : True := trivial
theorem lawEnd.tw17274082780693230594 : True := trivial
theorem lawEnd.tw3027563504322927778 : True := trivial
theorem lawEnd.tw12386447845510214914 : True := trivial
theorem lawEnd.tw16628810116144753954 : True := trivial
theorem lawEnd.tw12818194478872374946 : True := trivial
theorem lawEnd.tw16227152233422302050 : True := trivial
theorem lawEnd.tw6786880187777333122 : True := trivial
theorem lawEnd.tw1251738903884085154 : True := trivial
theorem lawEnd.tw2732726809481060322 : True := trivial
theorem lawEnd.tw1656630212203590755 : True := trivial
theorem lawEnd.tw11278385169744274563 : True := trivial
theorem lawEnd.tw15750330985336239395 : True := trivial
theorem lawEnd.tw3453605088860306147 : True := trivial
theorem lawEnd.tw7477212421604533027 : True := trivial
theorem lawEnd.tw3538793116169416483 : True := trivial
theorem lawEnd.tw12869466882590002083 : True := trivial
theorem lawEnd.tw2009609654595555267 : True := trivial
theorem lawEnd.tw8852912417617710019 : True := trivial
theorem lawEnd.tw10691546281669647364 : True := trivial
theorem lawEnd.tw11226860878345700580 : True := trivial
theorem lawEnd.tw15743859526923490532 : True := trivial
theorem lawEnd.tw12748271565837627684 : True := trivial
theorem lawEnd.tw7287015908968725828 : True := trivial
theorem lawEnd.tw12151027835664584260 : True := trivial
theorem lawEnd.tw12216590158278182500 : True := trivial
theorem lawEnd.tw5465121855579997860 : True := trivial
theorem lawEnd.tw718775137120624677 : True := trivial
theorem lawEnd.tw937172780702247109 : True := trivial
theorem lawEnd.tw1702084699991380197 : True := trivial
theorem lawEnd.tw5418256684448759397 : True := trivial
theorem lawEnd.tw6991441650598819461 : True := trivial
theorem lawEnd.tw17245010054054879045 : True := trivial
theorem lawEnd.tw2597512347142013062 : True := trivial
theorem lawEnd.tw8802101695533850758 : True := trivial
theorem lawEnd.tw5114822125846566118 : True := trivial
theorem lawEnd.tw4239283766611697254 : True := trivial
theorem lawEnd.tw1758210990664521318 : True := trivial
theorem lawEnd.tw205412513702228742 : True := trivial
theorem lawEnd.tw12464291620838151942 : True := trivial
theorem lawEnd.tw12130680780316408774 : True := trivial
theorem lawEnd.tw4157711545021483431 : True := trivial
theorem lawEnd.tw16341913831224209095 : True := trivial
theorem lawEnd.tw13137241970652717031 : True := trivial
theorem lawEnd.tw17276086276453074952 : True := trivial
theorem lawEnd.tw4441984512036902024 : True := trivial
theorem lawEnd.tw3575494421214360808 : True := trivial
theorem lawEnd.tw1374177838048792936 : True := trivial
theorem lawEnd.tw1510865175609471560 : True := trivial
theorem lawEnd.tw6067594340387233352 : True := trivial
theorem lawEnd.tw3517560372150476488 : True := trivial
theorem lawEnd.tw2920318020246604616 : True := trivial
theorem lawEnd.tw18065889834338048872 : True := trivial
theorem lawEnd.tw3325205046150872040 : True := trivial
theorem lawEnd.tw13324303014985562088 : True := trivial
theorem lawEnd.tw15011040519886800009 : True := trivial
theorem lawEnd.tw10067767774165859657 : True := trivial
theorem lawEnd.tw2024507763117462889 : True := trivial
theorem lawEnd.tw3893621185490420169 : True := trivial
theorem lawEnd.tw987296413943991785 : True := trivial
theorem lawEnd.tw7921549533559266825 : True := trivial
theorem lawEnd.tw14412454423334065737 : True := trivial
theorem lawEnd.tw14631130562026723466 : True := trivial
theorem lawEnd.tw7716558891189909706 : True := trivial
theorem lawEnd.tw9743715194076337354 : True := trivial
theorem lawEnd.tw14013425625303167210 : True := trivial
theorem lawEnd.tw18413152895368777002 : True := trivial
theorem lawEnd.tw14955644408898835818 : True := trivial
theorem lawEnd.tw12319349099093243530 : True := trivial
theorem lawEnd.tw9376483094993126058 : True := trivial
theorem lawEnd.tw7890088196099197738 : True := trivial
theorem lawEnd.tw12876029397480174410 : True := trivial
theorem lawEnd.tw15132382043735769163 : True := trivial
theorem lawEnd.tw10796080587446188235 : True := trivial
theorem lawEnd.tw7540879466890802667 : True := trivial
theorem lawEnd.tw7099616086716499467 : True := trivial
theorem lawEnd.tw3017687467803944491 : True := trivial
theorem lawEnd.tw13189504339232375787 : True := trivial
theorem lawEnd.tw15168389564065441771 : True := trivial
theorem lawEnd.tw16891564434284723372 : True := trivial
theorem lawEnd.tw17626170835394868556 : True := trivial
theorem lawEnd.tw791630960799993260 : True := trivial
theorem lawEnd.tw15002599775562890668 : True := trivial
theorem lawEnd.tw11901941329242437068 : True := trivial
theorem lawEnd.tw10284794045513887180 : True := trivial
theorem lawEnd.tw3857242764988896876 : True := trivial
theorem lawEnd.tw11754653807592713868 : True := trivial
theorem lawEnd.tw11153811441561862828 : True := trivial
theorem lawEnd.tw13869933553815699212 : True := trivial
theorem lawEnd.tw5834476291873579341 : True := trivial
theorem lawEnd.tw14916520351749706093 : True := trivial
theorem lawEnd.tw14272077679857264493 : True := trivial
theorem lawEnd.tw6863821633597875117 : True := trivial
theorem lawEnd.tw10952233505802199981 : True := trivial
theorem lawEnd.tw10654042149976470990 : True := trivial
theorem lawEnd.tw535032207335712302 : True := trivial
theorem lawEnd.tw12244985766714833614 : True := trivial
theorem lawEnd.tw10211036251684347886 : True := trivial
theorem lawEnd.tw1703963862787546127 : True := trivial
theorem lawEnd.tw7322508309841662415 : True := trivial
theorem lawEnd.tw168309524880897935 : True := trivial
theorem lawEnd.tw17322586734538900592 : True := trivial
theorem lawEnd.tw8149484069362034832 : True := trivial
theorem lawEnd.tw15788216639089832144 : True := trivial
theorem lawEnd.tw10409869263510009232 : True := trivial
theorem lawEnd.tw17603132194891478704 : True := trivial
theorem lawEnd.tw14437000154278488816 : True := trivial
theorem lawEnd.tw12360413795572423632 : True := trivial
theorem lawEnd.tw6814743545966093264 : True := trivial
theorem lawEnd.tw15585571291900879856 : True := trivial
theorem lawEnd.tw14976770574827878449 : True := trivial
theorem lawEnd.tw2226648977826271345 : True := trivial
theorem lawEnd.tw15964479473596503249 : True := trivial
theorem lawEnd.tw16379918921645964785 : True := trivial
theorem lawEnd.tw11558050665493335569 : True := trivial
theorem lawEnd.tw4840216092476694129 : True := trivial
theorem lawEnd.tw9541774202495988401 : True := trivial
theorem lawEnd.tw4318110053196629777 : True := trivial
theorem lawEnd.tw125424991304509458 : True := trivial
theorem lawEnd.tw13425895793305163954 : True := trivial
theorem lawEnd.tw11708529906337410386 : True := trivial
theorem lawEnd.tw9912962580359464338 : True := trivial
theorem lawEnd.tw1528343266455292562 : True := trivial
theorem lawEnd.tw10273471535697015474 : True := trivial
theorem lawEnd.tw13890864254624744274 : True := trivial
theorem lawEnd.tw12164173699512606803 : True := trivial
theorem lawEnd.tw2569479270794153363 : True := trivial
theorem lawEnd.tw15250869410818660947 : True := trivial
theorem lawEnd.tw5471820415821228659 : True := trivial
theorem lawEnd.tw18431335339774971635 : True := trivial
theorem lawEnd.tw3328775570846775091 : True := trivial
theorem lawEnd.tw13511127843036103539 : True := trivial
theorem lawEnd.tw7818560022640650131 : True := trivial
theorem lawEnd.tw9789374860491459571 : True := trivial
theorem lawEnd.tw9555496647016482803 : True := trivial
theorem lawEnd.tw11918099403577854036 : True := trivial
theorem lawEnd.tw15032358204693627284 : True := trivial
theorem lawEnd.tw2537815707409764820 : True := trivial
theorem lawEnd.tw8821901412039059156 : True := trivial
theorem lawEnd.tw6518013308705499892 : True := trivial
theorem lawEnd.tw6405585371789384532 : True := trivial
theorem lawEnd.tw7566093201236986933 : True := trivial
theorem lawEnd.tw16562024672500664629 : True := trivial
theorem lawEnd.tw3583678811141708181 : True := trivial
theorem lawEnd.tw2462549495723319893 : True := trivial
theorem lawEnd.tw7164404956367807093 : True := trivial
theorem lawEnd.tw4857698682488729237 : True := trivial
theorem lawEnd.tw6271392364236769045 : True := trivial
theorem lawEnd.tw6937643243617819541 : True := trivial
theorem lawEnd.tw3365988924235916245 : True := trivial
theorem lawEnd.tw9443753819612750390 : True := trivial
theorem lawEnd.tw9674207276774321750 : True := trivial
theorem lawEnd.tw17849145938328706071 : True := trivial
theorem lawEnd.tw5302022369556489239 : True := trivial
theorem lawEnd.tw4412103651921044887 : True := trivial
theorem lawEnd.tw16995744248539957687 : True := trivial
theorem lawEnd.tw4548325388771838583 : True := trivial
theorem lawEnd.tw9451885519114772215 : True := trivial
theorem lawEnd.tw12480318946287438615 : True := trivial
theorem lawEnd.tw4162403981031594072 : True := trivial
theorem lawEnd.tw7952305193781263448 : True := trivial
theorem lawEnd.tw17123151530022029624 : True := trivial
theorem lawEnd.tw11208067030263167384 : True := trivial
theorem lawEnd.tw1009488607046369784 : True := trivial
theorem lawEnd.tw5351856376822828249 : True := trivial
theorem lawEnd.tw4248250149247326585 : True := trivial
theorem lawEnd.tw8415991088628947353 : True := trivial
theorem lawEnd.tw6133791022589615577 : True := trivial
theorem lawEnd.tw1275365609868427769 : True := trivial
theorem lawEnd.tw10962406919174433721 : True := trivial
theorem lawEnd.tw10504678727070204889 : True := trivial
theorem lawEnd.tw15936283072620724410 : True := trivial
theorem lawEnd.tw4156687945251321082 : True := trivial
theorem lawEnd.tw6185805985178928666 : True := trivial
theorem lawEnd.tw13207004136686065274 : True := trivial
theorem lawEnd.tw7275580721626313370 : True := trivial
theorem lawEnd.tw5605337138495973050 : True := trivial
theorem lawEnd.tw722672665724886874 : True := trivial
theorem lawEnd.tw10468779632470541371 : True := trivial
theorem lawEnd.tw1175478136769062075 : True := trivial
theorem lawEnd.tw16349898043894790427 : True := trivial
theorem lawEnd.tw5539560394082316603 : True := trivial
theorem lawEnd.tw15658931594317451643 : True := trivial
theorem lawEnd.tw900471178646668699 : True := trivial
theorem lawEnd.tw9249179387318087163 : True := trivial
theorem lawEnd.tw14693469046709638651 : True := trivial
theorem lawEnd.tw8342381063747947099 : True := trivial
theorem lawEnd.tw15313295470254214875 : True := trivial
theorem lawEnd.tw2388228883731283004 : True := trivial
theorem lawEnd.tw9583832982151049308 : True := trivial
theorem lawEnd.tw15987607463006721148 : True := trivial
theorem lawEnd.tw12941984446689719452 : True := trivial
theorem lawEnd.tw5647632437064343964 : True := trivial
theorem lawEnd.tw12414677412299667068 : True := trivial
theorem lawEnd.tw7858323841765218972 : True := trivial
theorem lawEnd.tw17023137958821918396 : True := trivial
theorem lawEnd.tw4397128123439931100 : True := trivial
theorem lawEnd.tw15581932961640248060 : True := trivial
theorem lawEnd.tw4928876038719991837 : True := trivial
theorem lawEnd.tw15190824786867520637 : True := trivial
theorem lawEnd.tw2518976887262386557 : True := trivial
theorem lawEnd.tw13322794617707642301 : True := trivial
theorem lawEnd.tw14205753683226986013 : True := trivial
theorem lawEnd.tw13210504993621952125 : True := trivial
theorem lawEnd.tw4315449334950452893 : True := trivial
theorem lawEnd.tw14320481902353457053 : True := trivial
theorem lawEnd.tw8804548225604275133 : True := trivial
theorem lawEnd.tw4239887355910836254 : True := trivial
theorem lawEnd.tw11783332083806279838 : True := trivial
theorem lawEnd.tw6586265217276036542 : True := trivial
theorem lawEnd.tw9881801384250170846 : True := trivial
theorem lawEnd.tw1231692751607888446 : True := trivial
theorem lawEnd.tw10367723968520730462 : True := trivial
theorem lawEnd.tw6559940626155524127 : True := trivial
theorem lawEnd.tw15393770903550951615 : True := trivial
theorem lawEnd.tw17593514455058559199 : True := trivial
theorem lawEnd.tw13349087430641816895 : True := trivial
theorem lawEnd.tw11017761171823680831 : True := trivial
theorem lawEnd.tw8111592453419889119 : True := trivial
theorem lawEnd.tw2366067656133183 : True := trivial
theorem lawEnd.tw7073850611267952223 : True := trivial
theorem lawEnd.tw5780401341672293311 : True := trivial
theorem lawEnd.tw5639633426102497725 : True := trivial
set_option Elab.async true in
theorem lawEnd : PySem.Challenge.rw_pe0263_01.Holds := by
  w_on; o_law; k_head; (case hw => w_witness2)
  exact Internal.law_walk
end Mine
end
theorem PySem.Challenge.cw_pe0263_01_holds : PySem.Challenge.rw_pe0263_01.Holds :=
  Mine.lawEnd
