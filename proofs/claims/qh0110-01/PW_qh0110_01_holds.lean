import PyProof.Rows.All
import Wide.All
import OpenK.AllK
import Wide.FinOn
import Lean
import PySem.Challenge.RW_qh0110_01
open PySem PySem.W PyProof.Rows
set_option Elab.async false
set_option maxRecDepth 100000
set_option maxHeartbeats 0
namespace Mine
open_top hd for PySem.Challenge.rw_qh0110_01
end Mine
namespace Mine
theorem reset00 : True := by
  w_top off
  k_with_none
  exact trivial
end Mine
namespace Mine
theorem off_lt {l : List (Addr × Obj)} {a D : Addr} {o : Obj} (h : ∀ p ∈ l, p.1 < D) (m : (a, o) ∈ l) : a ≠ D := Nat.ne_of_lt (h _ m)
theorem off_gt {l : List (Addr × Obj)} {a D : Addr} {o : Obj} (h : ∀ p ∈ l, p.1 < D) (m : (a, o) ∈ l) : D ≠ a := Nat.ne_of_gt (h _ m)
theorem off_ne {l : List (Addr × Obj)} {a D : Addr} {o : Obj} (h : ∀ p ∈ l, p.1 ≠ D) (m : (a, o) ∈ l) : a ≠ D := h _ m
theorem off_en {l : List (Addr × Obj)} {a D : Addr} {o : Obj} (h : ∀ p ∈ l, p.1 ≠ D) (m : (a, o) ∈ l) : D ≠ a := Ne.symm (h _ m)
theorem all_lt_sub {l l' : List (Addr × Obj)} {D : Addr} (h : ∀ p ∈ l', p.1 < D) (s : ∀ p ∈ l, p ∈ l') : ∀ p ∈ l, p.1 ≠ D := fun p hp => Nat.ne_of_lt (h p (s p hp))
theorem all_ne_sub {l l' : List (Addr × Obj)} {D : Addr} (h : ∀ p ∈ l', p.1 ≠ D) (s : ∀ p ∈ l, p ∈ l') : ∀ p ∈ l, p.1 ≠ D := fun p hp => h p (s p hp)
local macro_rules | `(tactic| walk_at $s:str) => `(tactic| k_extra $s)
local macro_rules | `(tactic| k_ne) => `(tactic| first | assumption | exact Ne.symm (by assumption) | exact Nat.ne_of_lt (by assumption) | exact Nat.ne_of_gt (by assumption) | (refine' off_lt ?h ?m; (case h => assumption); (case m => (repeat (first | exact List.Mem.head _ | refine List.Mem.tail _ ?_)))) | (refine' off_gt ?h ?m; (case h => assumption); (case m => (repeat (first | exact List.Mem.head _ | refine List.Mem.tail _ ?_)))) | (refine' off_ne ?h ?m; (case h => assumption); (case m => (repeat (first | exact List.Mem.head _ | refine List.Mem.tail _ ?_)))) | (refine' off_en ?h ?m; (case h => assumption); (case m => (repeat (first | exact List.Mem.head _ | refine List.Mem.tail _ ?_)))) | (refine neN ?_; (try dsimp only); omega))
section
theorem bitOr_nat (a b : Nat) : Builtin.bitOr (a : Int) (b : Int) = ((a ||| b : Nat) : Int) := by
  have e : ∀ n : Nat, decide (0 ≤ Builtin.bitNot (n : Int)) = false := fun n => decide_eq_false (by
    unfold Builtin.bitNot
    omega)
  have f : ∀ n : Nat, (Builtin.bitNot (Builtin.bitNot (n : Int))).toNat = n := fun n => by
    simp only [Builtin.bitNot]
    omega
  unfold Builtin.bitOr Builtin.bitAnd
  rw [e, e]
  simp only [f]
  simp only [Builtin.bitNot]
  omega
theorem bitOr_add {x y : Int} {k : Nat} (hx : 0 ≤ x) (hy : 0 ≤ y) (hk : y < 2 ^ k) : Builtin.bitOr (x * 2 ^ k) y = x * 2 ^ k + y := by
  obtain ⟨a, rfl⟩ := Int.eq_ofNat_of_zero_le hx
  obtain ⟨b, rfl⟩ := Int.eq_ofNat_of_zero_le hy
  have hb : b < 2 ^ k := by exact_mod_cast hk
  have e : ((a : Int) * 2 ^ k) = ((a <<< k : Nat) : Int) := by rw [Nat.shiftLeft_eq]; push_cast; rfl
  rw [e, bitOr_nat, ← Nat.shiftLeft_add_eq_or_of_lt hb]
  push_cast
  rfl
/-- the sign of a place in base 64 -/
def b64sgn (i : Int) : Int := if i < 26 then i + 65 else if i < 52 then i + 71 else if i < 62 then i - 4 else if i = 62 then 43 else 47
abbrev b64arr : Array UInt8 := #[65, 66, 67, 68, 69, 70, 71, 72, 73, 74, 75, 76, 77, 78, 79, 80, 81, 82, 83, 84, 85, 86, 87, 88, 89, 90, 97, 98, 99, 100, 101, 102, 103, 104, 105, 106, 107, 108, 109, 110, 111, 112, 113, 114, 115, 116, 117, 118, 119, 120, 121, 122, 48, 49, 50, 51, 52, 53, 54, 55, 56, 57, 43, 47]
theorem b64_at_nat : ∀ k : Fin 64, (KBw.bInts b64arr).getD k.val 0 = b64sgn (k.val : Int) := by decide +kernel
theorem b64_at {i : Int} (h0 : 0 ≤ i) (h1 : i < 64) : (KBw.bInts b64arr).getD i.toNat 0 = b64sgn i := by
  have h := b64_at_nat ⟨i.toNat, by omega⟩
  simp only at h
  rw [h]
  congr 1
  omega
theorem b64sgn_in {i : Int} (h0 : 0 ≤ i) (h1 : i < 64) : 0 ≤ b64sgn i ∧ b64sgn i < 256 := by
  unfold b64sgn
  (repeat' split) <;> omega
section
variable {prog : Program} {w : World} {A : Around} {E : Value → Shared → Prop} {s : Shared} {value slice : PySem.Expr} {t ui : Tok} {i : Int} {Q : Value → Shared → Prop}
theorem and_m2 {x : Int} {u : Tok} (h : Q (.int (x % 4) s.toks) { s with toks := s.toks + 1 }) : wpAny (model prog w) A (binaryOp .BitAnd (.int x t) (.int 3 u)) Q E s := and_int (by rw [bitAnd_m2]; exact h)
theorem and_m4 {x : Int} {u : Tok} (h : Q (.int (x % 16) s.toks) { s with toks := s.toks + 1 }) : wpAny (model prog w) A (binaryOp .BitAnd (.int x t) (.int 15 u)) Q E s := and_int (by rw [bitAnd_m4]; exact h)
theorem and_m6 {x : Int} {u : Tok} (h : Q (.int (x % 64) s.toks) { s with toks := s.toks + 1 }) : wpAny (model prog w) A (binaryOp .BitAnd (.int x t) (.int 63 u)) Q E s := and_int (by rw [bitAnd_m6]; exact h)
theorem and_m16 {x : Int} {u : Tok} (h : Q (.int (x % 65536) s.toks) { s with toks := s.toks + 1 }) : wpAny (model prog w) A (binaryOp .BitAnd (.int x t) (.int 65535 u)) Q E s := and_int (by rw [bitAnd_m16]; exact h)
theorem shr_k {x n : Int} {u : Tok} (k : Nat) (c : Int) (hn : n = (k : Int)) (hc : (2 : Int) ^ k = c) (h : Q (.int (x / c) s.toks) { s with toks := s.toks + 1 }) : wpAny (model prog w) A (binaryOp .RShift (.int x t) (.int n u)) Q E s :=
  rshift_int (by omega) (by
    have e : n.toNat = k := by omega
    rw [e, Int.fdiv_eq_ediv_of_nonneg _ (Int.le_of_lt (Int.pow_pos (by decide))), hc]
    exact h)
theorem shl_k {x n : Int} {u : Tok} (k : Nat) (c : Int) (hn : n = (k : Int)) (hc : (2 : Int) ^ k = c) (hk : k ≤ 1000) (h0 : 0 ≤ x) (h1 : x < 1099511627776) (h : Q (.int (x * c) s.toks) { s with toks := s.toks + 1 }) : wpAny (model prog w) A (binaryOp .LShift (.int x t) (.int n u)) Q E s :=
  lshift_int_small (by omega) (by omega) (by omega) (by
    have e : n.toNat = k := by omega
    rw [e, hc]
    exact h)
theorem or_k {x y c : Int} {u : Tok} (k : Nat) (hc : (2 : Int) ^ k = c) (hx : 0 ≤ x) (hy : 0 ≤ y) (hy1 : y < c) (h : Q (.int (x * c + y) s.toks) { s with toks := s.toks + 1 }) : wpAny (model prog w) A (binaryOp .BitOr (.int (x * c) t) (.int y u)) Q E s :=
  or_int (by subst hc; rw [bitOr_add hx hy hy1]; exact h)
theorem or_4 {x y : Int} {u : Tok} (hx : 0 ≤ x) (hy : 0 ≤ y) (hy1 : y < 4) (h : Q (.int (x * 4 + y) s.toks) { s with toks := s.toks + 1 }) : wpAny (model prog w) A (binaryOp .BitOr (.int (x * 4) t) (.int y u)) Q E s := or_k 2 rfl hx hy hy1 h
theorem shl_4 {x : Int} {u : Tok} (h0 : 0 ≤ x) (h1 : x < 1099511627776) (h : Q (.int (x * 4) s.toks) { s with toks := s.toks + 1 }) : wpAny (model prog w) A (binaryOp .LShift (.int x t) (.int 2 u)) Q E s := shl_k 2 4 rfl rfl (by decide) h0 h1 h
theorem or_16 {x y : Int} {u : Tok} (hx : 0 ≤ x) (hy : 0 ≤ y) (hy1 : y < 16) (h : Q (.int (x * 16 + y) s.toks) { s with toks := s.toks + 1 }) : wpAny (model prog w) A (binaryOp .BitOr (.int (x * 16) t) (.int y u)) Q E s := or_k 4 rfl hx hy hy1 h
theorem shl_16 {x : Int} {u : Tok} (h0 : 0 ≤ x) (h1 : x < 1099511627776) (h : Q (.int (x * 16) s.toks) { s with toks := s.toks + 1 }) : wpAny (model prog w) A (binaryOp .LShift (.int x t) (.int 4 u)) Q E s := shl_k 4 16 rfl rfl (by decide) h0 h1 h
theorem or_64 {x y : Int} {u : Tok} (hx : 0 ≤ x) (hy : 0 ≤ y) (hy1 : y < 64) (h : Q (.int (x * 64 + y) s.toks) { s with toks := s.toks + 1 }) : wpAny (model prog w) A (binaryOp .BitOr (.int (x * 64) t) (.int y u)) Q E s := or_k 6 rfl hx hy hy1 h
theorem shl_64 {x : Int} {u : Tok} (h0 : 0 ≤ x) (h1 : x < 1099511627776) (h : Q (.int (x * 64) s.toks) { s with toks := s.toks + 1 }) : wpAny (model prog w) A (binaryOp .LShift (.int x t) (.int 6 u)) Q E s := shl_k 6 64 rfl rfl (by decide) h0 h1 h
theorem or_256 {x y : Int} {u : Tok} (hx : 0 ≤ x) (hy : 0 ≤ y) (hy1 : y < 256) (h : Q (.int (x * 256 + y) s.toks) { s with toks := s.toks + 1 }) : wpAny (model prog w) A (binaryOp .BitOr (.int (x * 256) t) (.int y u)) Q E s := or_k 8 rfl hx hy hy1 h
theorem shl_256 {x : Int} {u : Tok} (h0 : 0 ≤ x) (h1 : x < 1099511627776) (h : Q (.int (x * 256) s.toks) { s with toks := s.toks + 1 }) : wpAny (model prog w) A (binaryOp .LShift (.int x t) (.int 8 u)) Q E s := shl_k 8 256 rfl rfl (by decide) h0 h1 h
theorem item_b64 (h0 : 0 ≤ i) (h1 : i < 64) (h : ∀ t' k, Q (.int (b64sgn i) t') { s with toks := k })
    (hs : subscripted slice false (.bytes b64arr t) (.int i ui) = operate [.bytes b64arr t, .int i ui] (getItem (.bytes b64arr t) (.int i ui)))
    (ht : ∀ r, letTemporaryGo value (.bytes b64arr t) r = pure ()) : wpAny (model prog w) A (subscriptTail value slice (.bytes b64arr t) (.int i ui)) Q E s :=
  KBw.item_K (ks := KBw.bInts b64arr) rfl (by decide +kernel) h0 (by rw [KBw.ints_length]; exact h1) (fun t' k _ _ => by rw [b64_at h0 h1]; exact h t' k) hs ht
end
end

section
/-! Plain expressions, tests and arguments at one step: what they come to is reckoned, not walked. -/
/-- a test's outcome -/
inductive Cd where
  | T | F | p (P : Prop)
def Cd.prop : Cd → Prop
  | .T => True
  | .F => False
  | .p P => P
noncomputable def Cd.not (c : Cd) : Cd := match c with
  | .T => .F
  | .F => .T
  | .p P => .p (¬ P)
noncomputable def Cd.and (c d : Cd) : Cd := match c with
  | .T => d
  | .F => .F
  | .p P => match d with
    | .T => .p P
    | .F => .F
    | .p R => .p (P ∧ R)
noncomputable def Cd.or (c d : Cd) : Cd := match c with
  | .F => d
  | .T => .T
  | .p P => match d with
    | .F => .p P
    | .T => .T
    | .p R => .p (P ∨ R)
theorem Cd.not_p (c : Cd) : c.not.prop = ¬ c.prop := by
  cases c
  · exact not_true_eq_false.symm
  · exact not_false_eq_true.symm
  · rfl
theorem Cd.and_p (c d : Cd) : (c.and d).prop = (c.prop ∧ d.prop) := by
  cases c
  · exact (true_and _).symm
  · exact (false_and _).symm
  · cases d
    · exact (and_true _).symm
    · exact (and_false _).symm
    · rfl
theorem Cd.or_p (c d : Cd) : (c.or d).prop = (c.prop ∨ d.prop) := by
  cases c
  · exact (true_or _).symm
  · exact (false_or _).symm
  · cases d
    · exact (or_true _).symm
    · exact (or_false _).symm
    · rfl
def Thn (K : Value → Shared → Prop) (v : Value) (s : Shared) : Prop := K v s
def Rtn (K : Value → Shared → Prop) (v : Value) (s : Shared) : Prop := K v s
def Trn (K : Flow → Shared → Prop) (f : Flow) (s : Shared) : Prop := K f s
def ThB (K : Bool → Shared → Prop) (b : Bool) (s : Shared) : Prop := K b s
inductive View : PySem.Expr → Type where
  | name (x p) : View (.Name x p)
  | const (c k p) : View (.Constant c k p)
  | bin (l op r p) : View (.BinOp l op r p)
  | cmp (l ops rs p) : View (.Compare l ops rs p)
  | bool (op es p) : View (.BoolOp op es p)
  | un (op x p) : View (.UnaryOp op x p)
  | other (e) : View e
noncomputable def view (e : PySem.Expr) : View e := match e with
  | .Name x p => .name x p
  | .Constant c k p => .const c k p
  | .BinOp l op r p => .bin l op r p
  | .Compare l ops rs p => .cmp l ops rs p
  | .BoolOp op es p => .bool op es p
  | .UnaryOp op x p => .un op x p
  | e => .other e
inductive ViewV : Value → Type where
  | int (a t) : ViewV (.int a t)
  | bool (b) : ViewV (.bool b)
  | other (v) : ViewV v
noncomputable def viewV (v : Value) : ViewV v := match v with
  | .int a t => .int a t
  | .bool b => .bool b
  | v => .other v
inductive ViewC : Const → Type where
  | int (i) : ViewC (.int i)
  | bytes (b) : ViewC (.bytes b)
  | bool (b) : ViewC (.bool b)
  | none : ViewC .none
  | other (c) : ViewC c
noncomputable def viewC (c : Const) : ViewC c := match c with
  | .int i => .int i
  | .bytes b => .bytes b
  | .bool b => .bool b
  | .none => .none
  | c => .other c
noncomputable def locOk (env : Env) (x : Str) : Bool := env.scope.kind == .function && (env.kindOf x == some .local && !(x == ("__debug__" : Str)))
theorem locOk_k {env : Env} {x : Str} (h : locOk env x = true) : env.scope.kind = .function ∧ env.kindOf x = some .local ∧ (x == ("__debug__" : Str)) = false := by
  have h1 := Bool.and_eq_true_iff.mp h
  have h2 := Bool.and_eq_true_iff.mp h1.2
  exact ⟨eq_of_beq h1.1, eq_of_beq h2.1, Eq.mp (Bool.not_eq_true' _) h2.2⟩
noncomputable def look (env : Env) (m : Str → Option Value) (x : Str) : Option Value := if locOk env x then m x else none
noncomputable def pick2 {α : Type} (b c d : Int) (x y : α) : Option α := if b = c then some x else if b = d then some y else none
noncomputable def binI (op : Operator) (a b : Int) : Option Int := match op with
  | .Add => some (a + b)
  | .Sub => some (a - b)
  | .Mod => if 0 < b then some (a % b) else none
  | .BitAnd => pick2 b 3 15 (a % 4) (a % 16)
  | .RShift => pick2 b 2 4 (a / 4) (a / 16)
  | _ => none
noncomputable def intV (v : Value) : Option Int := match viewV v with
  | .int a _ => some a
  | .bool _ => none
  | .other _ => none
/-- an int, whatever its mark -/
noncomputable def evI (env : Env) (m : Str → Option Value) : Nat → PySem.Expr → Option Int
  | 0, _ => none
  | n + 1, e => match view e with
    | .name x _ => (look env m x).bind intV
    | .const c _ _ => (match viewC c with
      | .int i => some i
      | .bytes _ => none
      | .bool _ => none
      | .none => none
      | .other _ => none)
    | .bin l op r _ => (evI env m n l).bind fun a => (evI env m n r).bind fun b => binI op a b
    | .cmp .. => none
    | .bool .. => none
    | .un .. => none
    | .other _ => none
/-- a name's value, a constant, an int -/
noncomputable def evW (env : Env) (m : Str → Option Value) (n : Nat) (e : PySem.Expr) : Option (Tok → Value) := match view e with
  | .name x _ => (look env m x).bind fun v => some fun _ => v
  | .const c _ _ => (match viewC c with
    | .int i => some fun t => .int i t
    | .bytes b => some fun t => .bytes b.toArray t
    | .bool b => some fun _ => .bool b
    | .none => some fun _ => .none
    | .other _ => none)
  | .bin l op r p => (evI env m n (.BinOp l op r p)).bind fun a => some fun t => .int a t
  | .cmp .. => none
  | .bool .. => none
  | .un .. => none
  | .other _ => none
noncomputable def cmpC (op : CmpOp) (a b : Int) : Option Cd := match op with
  | .Eq => some (.p (a = b))
  | .NotEq => some (.p (¬ a = b))
  | .Lt => some (.p (a < b))
  | .LtE => some (.p (a ≤ b))
  | .Gt => some (.p (b < a))
  | .GtE => some (.p (b ≤ a))
  | _ => none
noncomputable def tstAll (f : PySem.Expr → Option Cd) (g : Cd → Cd → Cd) (z : Cd) : List PySem.Expr → Option Cd
  | [] => some z
  | e :: r => (f e).bind fun c => (tstAll f g z r).bind fun d => some (g c d)
noncomputable def boolC (lit b : Bool) : Cd := match lit with
  | true => (match b with | true => .T | false => .F)
  | false => .p (b = true)
noncomputable def tstV (lit : Bool) (v : Value) : Option Cd := match viewV v with
  | .bool b => some (boolC lit b)
  | .int a _ => some (.p (¬ a = 0))
  | .other _ => none
noncomputable def tstC (f : PySem.Expr → Option Int) (a : Int) (ops : List CmpOp) (rs : List PySem.Expr) : Option Cd := match ops with
  | [] => none
  | op :: ops => (match rs with
    | [] => none
    | r :: rs => (match ops with
      | [] => (match rs with
        | [] => (f r).bind fun b => cmpC op a b
        | _ :: _ => none)
      | op' :: ops => (match rs with
        | [] => none
        | r' :: rs => if op = .LtE ∧ op' = .LtE ∧ ops = [] ∧ rs = [] then (f r).bind fun b => (f r').bind fun c => some (.p (a ≤ b ∧ b ≤ c)) else none)))
/-- what a plain test comes to -/
noncomputable def tstP (env : Env) (m : Str → Option Value) (lit : Bool) : Nat → PySem.Expr → Option Cd
  | 0, _ => none
  | n + 1, e => match view e with
    | .name x _ => (look env m x).bind (tstV lit)
    | .un op x _ => (match op with
      | .Not => (tstP env m lit n x).bind fun c => some c.not
      | _ => none)
    | .bool op es _ => (match op with
      | .And => tstAll (tstP env m lit n) Cd.and .T es
      | .Or => tstAll (tstP env m lit n) Cd.or .F es)
    | .bin l op r p => (evI env m 5 (.BinOp l op r p)).bind fun a => some (.p (¬ a = 0))
    | .cmp l ops rs _ => (evI env m 5 l).bind fun a => tstC (evI env m 5) a ops rs
    | .const .. => none
    | .other _ => none
section
variable {prog : Program} {w : World} {A : Around} {E : Value → Shared → Prop} {env : Env} {h₀ : Heap} {m : Str → Option Value}
theorem name_ok {s : Shared} {x : Str} {pos : Pos} {v : Value} {Q : Value → Shared → Prop} (F : Fr h₀ env.locals s.heap m) (hv : look env m x = some v) (h : Q v s) : wpAny (model prog w) A (eval (.Name x pos) env) Q E s := by
  unfold look at hv
  by_cases hx : locOk env x = true
  · rw [if_pos hx] at hv
    exact wpAny_Name (wpAny_loadName_local (locOk_k hx).1 (locOk_k hx).2.1 F.ns hv h) (locOk_k hx).2.2
  · rw [if_neg hx] at hv; cases hv
theorem pick2_eq {α : Type} {b c d : Int} {x y z : α} (h : pick2 b c d x y = some z) : b = c ∧ z = x ∨ b = d ∧ z = y := by
  unfold pick2 at h
  by_cases e : b = c
  · rw [if_pos e] at h; cases h; exact .inl ⟨e, rfl⟩
  · rw [if_neg e] at h
    by_cases e : b = d
    · rw [if_pos e] at h; cases h; exact .inr ⟨e, rfl⟩
    · rw [if_neg e] at h; cases h
theorem binI_ok {s : Shared} {op : Operator} {a b d : Int} {t u : Tok} {Q : Value → Shared → Prop} (hd : binI op a b = some d) (h : Q (.int d s.toks) { s with toks := s.toks + 1 }) : wpAny (model prog w) A (binaryOp op (.int a t) (.int b u)) Q E s := by
  cases op with
  | Add => cases hd; exact add_int h
  | Sub => cases hd; exact sub_int h
  | Mod =>
    change (if 0 < b then some (a % b) else none) = some d at hd
    by_cases e : 0 < b
    · rw [if_pos e] at hd; cases hd; exact mod_int' (Int.ne_of_gt e) (by rw [Int.fmod_eq_emod_of_nonneg _ (Int.le_of_lt e)]; exact h)
    · rw [if_neg e] at hd; cases hd
  | BitAnd =>
    rcases pick2_eq (show pick2 b 3 15 (a % 4) (a % 16) = some d from hd) with ⟨rfl, rfl⟩ | ⟨rfl, rfl⟩
    · exact and_m2 h
    · exact and_m4 h
  | RShift =>
    rcases pick2_eq (show pick2 b 2 4 (a / 4) (a / 16) = some d from hd) with ⟨rfl, rfl⟩ | ⟨rfl, rfl⟩
    · exact shr_k 2 4 rfl rfl h
    · exact shr_k 4 16 rfl rfl h
  | Mult | MatMult | Div | Pow | LShift | BitOr | BitXor | FloorDiv => cases hd
theorem evI_ok : ∀ (n : Nat) (e : PySem.Expr) (a : Int), evI env m n e = some a → (∀ op, behindInMarks op e = false) ∧ ∀ (s : Shared) (Q : Value → Shared → Prop), Fr h₀ env.locals s.heap m → (∀ t tk, Q (.int a t) { s with toks := tk }) → wpAny (model prog w) A (eval e env) Q E s
  | 0, _, _, h => by cases h
  | n + 1, e, a, h => by
    unfold evI at h
    generalize view e = v at h
    cases v with
    | name x p =>
      refine ⟨fun _ => rfl, fun s Q F hQ => ?_⟩
      obtain ⟨v, h1, h⟩ := Option.bind_eq_some_iff.mp h
      unfold intV at h
      generalize viewV v = u at h
      cases u with
      | int b t => cases h; exact name_ok F h1 (hQ t s.toks)
      | bool b => cases h
      | other v => cases h
    | const c k p =>
      refine ⟨fun _ => rfl, fun s Q F hQ => ?_⟩
      dsimp only at h
      generalize viewC c = u at h
      cases u <;> cases h
      exact wpAny_Constant_int (hQ _ _)
    | bin l op r p =>
      refine ⟨fun _ => rfl, fun s Q F hQ => ?_⟩
      obtain ⟨b, h1, h⟩ := Option.bind_eq_some_iff.mp h
      obtain ⟨c, h2, h⟩ := Option.bind_eq_some_iff.mp h
      refine wpAny_BinOp ((evI_ok n _ _ h1).2 s _ F fun t tk => ?_)
      exact (evI_ok n _ _ h2).2 _ _ F fun t' tk' => binI_ok h (hQ _ _)
    | cmp | bool | un | other => cases h
theorem evW_ok {n : Nat} {e : PySem.Expr} {R : Tok → Value} (h : evW env m n e = some R) {s : Shared} {Q : Value → Shared → Prop} (F : Fr h₀ env.locals s.heap m) (hQ : ∀ t tk, Q (R t) { s with toks := tk }) : wpAny (model prog w) A (eval e env) Q E s := by
  unfold evW at h
  generalize view e = v at h
  cases v with
  | name x p =>
    obtain ⟨v, h1, h⟩ := Option.bind_eq_some_iff.mp h
    cases h; exact name_ok F h1 (hQ 0 s.toks)
  | const c k p =>
    dsimp only at h
    generalize viewC c = u at h
    cases u <;> cases h
    · exact wpAny_Constant_int (hQ _ _)
    · exact Constant_bytes (hQ _ _)
    · exact Constant_bool (hQ 0 s.toks)
    · exact Constant_none (hQ 0 s.toks)
  | bin l op r p =>
    obtain ⟨b, h1, h⟩ := Option.bind_eq_some_iff.mp h
    cases h; exact (evI_ok _ _ _ h1).2 s _ F hQ
  | cmp | bool | un | other => cases h
theorem cmp_ok {op : CmpOp} {a b : Int} {c : Cd} {t u : Tok} {s : Shared} {Q : Value → Shared → Prop} (h : cmpC op a b = some c) (hQ : ∀ r, (r = true ↔ c.prop) → Q (.bool r) s) : wpAny (model prog w) A (compareOp op (.int a t) (.int b u)) Q E s := by
  cases op <;> cases h
  · exact eq_int (hQ _ beq_iff_eq)
  · exact ne_int (hQ _ bne_iff_ne)
  · exact lt_int (hQ _ decide_eq_true_iff)
  · exact le_int (hQ _ decide_eq_true_iff)
  · exact gt_int (hQ _ decide_eq_true_iff)
  · exact ge_int (hQ _ decide_eq_true_iff)
theorem boolC_is (lit b : Bool) : b = true ↔ (boolC lit b).prop := by
  cases lit
  · exact Iff.rfl
  · cases b
    · exact ⟨fun x => absurd x Bool.false_ne_true, fun x => False.elim x⟩
    · exact ⟨fun _ => trivial, fun _ => rfl⟩
theorem tstV_ok {lit : Bool} {v : Value} {c : Cd} (h : tstV lit v = some c) {s : Shared} {Q : Bool → Shared → Prop} (hQ : ∀ b, (b = true ↔ c.prop) → Q b s) : wpAny (model prog w) A (truthy v) Q E s := by
  unfold tstV at h
  generalize viewV v = u at h
  cases u with
  | int a t => cases h; exact truthy_int (hQ _ bne_iff_ne)
  | bool b => cases h; exact wpAny_truthy_bool (hQ _ (boolC_is _ _))
  | other => cases h
def Tst (prog : Program) (w : World) (A : Around) (E : Value → Shared → Prop) (env : Env) (h₀ : Heap) (m : Str → Option Value) (e : PySem.Expr) (c : Cd) : Prop :=
  ∀ (s : Shared) (Q : Bool → Shared → Prop), Fr h₀ env.locals s.heap m → (∀ b tk, (b = true ↔ c.prop) → Q b { s with toks := tk }) → wpAny (model prog w) A (isTrue e env (eval e env)) Q E s
theorem tstAnd_ok {f : PySem.Expr → Option Cd} (hf : ∀ e c, f e = some c → Tst prog w A E env h₀ m e c) (pos : Pos) (wh : Sem Value) : ∀ (es : List PySem.Expr) (c : Cd), tstAll f Cd.and .T es = some c → ∀ (s : Shared) (Q : Bool → Shared → Prop), Fr h₀ env.locals s.heap m → (∀ b tk, (b = true ↔ c.prop) → Q b { s with toks := tk }) → wpAny (model prog w) A (isTrue (.BoolOp .And es pos) env wh) Q E s
  | [], c, h, s, Q, F, hQ => by cases h; exact isTrue_and_nil (hQ true s.toks ⟨fun _ => trivial, fun _ => rfl⟩)
  | e :: r, c, h, s, Q, F, hQ => by
    obtain ⟨c1, h1, h⟩ := Option.bind_eq_some_iff.mp h
    obtain ⟨c2, h2, h⟩ := Option.bind_eq_some_iff.mp h
    cases h
    refine isTrue_and (hf _ _ h1 s _ F fun b tk hb => ?_)
    cases b
    · exact hQ false tk ⟨fun x => absurd x Bool.false_ne_true, fun x => hb.mpr (Eq.mp (Cd.and_p _ _) x).1⟩
    · exact tstAnd_ok hf pos wh r c2 h2 _ _ F fun b' tk' hb' => hQ b' tk' ⟨fun x => Eq.mpr (Cd.and_p _ _) ⟨hb.mp rfl, hb'.mp x⟩, fun x => hb'.mpr (Eq.mp (Cd.and_p _ _) x).2⟩
theorem tstOr_ok {f : PySem.Expr → Option Cd} (hf : ∀ e c, f e = some c → Tst prog w A E env h₀ m e c) (pos : Pos) (wh : Sem Value) : ∀ (es : List PySem.Expr) (c : Cd), tstAll f Cd.or .F es = some c → ∀ (s : Shared) (Q : Bool → Shared → Prop), Fr h₀ env.locals s.heap m → (∀ b tk, (b = true ↔ c.prop) → Q b { s with toks := tk }) → wpAny (model prog w) A (isTrue (.BoolOp .Or es pos) env wh) Q E s
  | [], c, h, s, Q, F, hQ => by cases h; exact isTrue_or_nil (hQ false s.toks ⟨fun x => absurd x Bool.false_ne_true, fun x => False.elim x⟩)
  | e :: r, c, h, s, Q, F, hQ => by
    obtain ⟨c1, h1, h⟩ := Option.bind_eq_some_iff.mp h
    obtain ⟨c2, h2, h⟩ := Option.bind_eq_some_iff.mp h
    cases h
    refine isTrue_or (hf _ _ h1 s _ F fun b tk hb => ?_)
    cases b
    · exact tstOr_ok hf pos wh r c2 h2 _ _ F fun b' tk' hb' => hQ b' tk' ⟨fun x => Eq.mpr (Cd.or_p _ _) (.inr (hb'.mp x)), fun x => (Eq.mp (Cd.or_p _ _) x).elim (fun y => absurd (hb.mpr y) Bool.false_ne_true) hb'.mpr⟩
    · exact hQ true tk ⟨fun _ => Eq.mpr (Cd.or_p _ _) (.inl (hb.mp rfl)), fun _ => rfl⟩
theorem tstC_ok {a : Int} {ops : List CmpOp} {rs : List PySem.Expr} {c : Cd} {l : PySem.Expr} {p : Pos} {n : Nat} {wh : Sem Value} (h1 : evI env m n l = some a) (h : tstC (evI env m n) a ops rs = some c) {s : Shared} {Q : Bool → Shared → Prop} (F : Fr h₀ env.locals s.heap m) (hQ : ∀ b tk, (b = true ↔ c.prop) → Q b { s with toks := tk }) :
    wpAny (model prog w) A (isTrue (.Compare l ops rs p) env wh) Q E s := by
  cases ops with
  | nil => cases h
  | cons op ops => cases rs with
    | nil => cases h
    | cons r rs => cases ops with
      | nil => cases rs with
        | nil =>
          obtain ⟨b, h2, h⟩ := Option.bind_eq_some_iff.mp h
          refine wpAny_isTrue_Compare1 ((evI_ok n _ _ h1).2 s _ F fun t tk => ?_) ((evI_ok (prog := prog) (w := w) (A := A) (E := E) (h₀ := h₀) n _ _ h2).1 _)
          exact (evI_ok n _ _ h2).2 _ _ F fun t' tk' => cmp_ok h fun r hr => wpAny_truthy_bool (hQ r tk' hr)
        | cons => cases h
      | cons op' ops => cases rs with
        | nil => cases h
        | cons r' rs =>
          change (if op = .LtE ∧ op' = .LtE ∧ ops = [] ∧ rs = [] then (evI env m n r).bind fun b => (evI env m n r').bind fun c => some (Cd.p (a ≤ b ∧ b ≤ c)) else none) = some c at h
          by_cases ho : op = .LtE ∧ op' = .LtE ∧ ops = [] ∧ rs = []
          · rw [if_pos ho] at h
            obtain ⟨rfl, rfl, rfl, rfl⟩ := ho
            obtain ⟨b, h2, h⟩ := Option.bind_eq_some_iff.mp h
            obtain ⟨d, h3, h⟩ := Option.bind_eq_some_iff.mp h
            cases h
            refine isTrue_chain ((evI_ok n _ _ h1).2 s _ F fun t tk => test_link ((evI_ok n _ _ h2).2 _ _ F fun t' tk' => le_int (wpAny_truthy_bool ?_))) ((evI_ok (prog := prog) (w := w) (A := A) (E := E) (h₀ := h₀) n _ _ h3).1 _)
            by_cases hb : a ≤ b
            · rw [decide_eq_true hb, if_pos rfl]
              exact test_last ((evI_ok n _ _ h3).2 _ _ F fun t' tk' => le_int (wpAny_truthy_bool (hQ _ _ ⟨fun x => ⟨hb, of_decide_eq_true x⟩, fun x => decide_eq_true x.2⟩)))
            · rw [decide_eq_false hb, if_neg Bool.false_ne_true]
              exact hQ _ _ ⟨fun x => absurd x Bool.false_ne_true, fun x => absurd x.1 hb⟩
          · rw [if_neg ho] at h; cases h
theorem tst_ok (lit : Bool) : ∀ (n : Nat) (e : PySem.Expr) (c : Cd), tstP env m lit n e = some c → Tst prog w A E env h₀ m e c
  | 0, _, _, h => by cases h
  | n + 1, e, c, h => by
    intro s Q F hQ
    unfold tstP at h
    generalize view e = v at h
    cases v with
    | name x p =>
      obtain ⟨v, h1, h⟩ := Option.bind_eq_some_iff.mp h
      exact isTrue_plain (name_ok F h1 (tstV_ok h fun b hb => hQ b s.toks hb))
    | const | other => cases h
    | bin l op r p =>
      obtain ⟨a, h1, h⟩ := Option.bind_eq_some_iff.mp h
      cases h; exact isTrue_plain ((evI_ok _ _ _ h1).2 s _ F fun t tk => truthy_int (hQ _ _ bne_iff_ne))
    | un op x p =>
      cases op with
      | Not =>
        obtain ⟨c1, h1, h⟩ := Option.bind_eq_some_iff.mp h
        cases h
        exact isTrue_not (tst_ok lit n _ _ h1 s _ F fun b tk hb => hQ (!b) tk (by
          rw [Cd.not_p, ← hb]
          cases b
          · exact ⟨fun _ => Bool.false_ne_true, fun _ => rfl⟩
          · exact ⟨fun x => absurd x Bool.false_ne_true, fun x => absurd rfl x⟩))
      | Invert | UAdd | USub => cases h
    | bool op es p =>
      cases op with
      | And => exact tstAnd_ok (tst_ok lit n) _ _ _ _ h _ _ F hQ
      | Or => exact tstOr_ok (tst_ok lit n) _ _ _ _ h _ _ F hQ
    | cmp l ops rs p =>
      obtain ⟨a, h1, h⟩ := Option.bind_eq_some_iff.mp h
      exact tstC_ok h1 h F hQ
section
variable {s : Shared} {Q : Flow → Shared → Prop} {rest : List Stmt}
theorem execs_app (b : List Stmt) : ∀ a : List Stmt, execs (a ++ b) env = (do match ← execs a env with | .next => execs b env | f => pure f)
  | [] => rfl
  | st :: a => by
    rw [List.cons_append, execs_cons, execs_cons, execs_app b a, bind_assoc]
    congr 1
    funext f
    cases f <;> first | rfl | exact (pure_bind _ _).symm
/-- an if with what stands behind it: no rest to keep in mind -/
theorem flat_if0 {test : PySem.Expr} {body orelse : List Stmt} {pos : Pos} (h : wpAny (model prog w) A (isTrue test env (eval test env)) (fun c s' => if c then wpAny (model prog w) A (execs (body ++ rest) env) Q E s' else wpAny (model prog w) A (execs (orelse ++ rest) env) Q E s') E s) :
    wpAny (model prog w) A (execs (.If test body orelse pos :: rest) env) Q E s := fun Γ p hΓ => by
  rw [execs_cons, Sem.wp_bind', exec_If, Sem.wp_bind', Sem.wp_cmd_standAt, Sem.wp_bind']
  refine Sem.wp_mono _ Γ _ (fun c p₂ s₂ h₂ => ?_) (fun _ _ _ h' => h') _ _ (h Γ _ hΓ)
  cases c
  · have h3 := h₂ Γ p₂ hΓ
    rw [execs_app, Sem.wp_bind'] at h3
    exact h3
  · have h3 := h₂ Γ p₂ hΓ
    rw [execs_app, Sem.wp_bind'] at h3
    exact h3
theorem flat_if {test : PySem.Expr} {body orelse : List Stmt} {pos : Pos} (h : ∀ K : Bool → Shared → Prop, (∀ s', wpAny (model prog w) A (execs (body ++ rest) env) Q E s' → ThB K true s') → (∀ s', wpAny (model prog w) A (execs (orelse ++ rest) env) Q E s' → ThB K false s') → wpAny (model prog w) A (isTrue test env (eval test env)) (ThB K) E s) :
    wpAny (model prog w) A (execs (.If test body orelse pos :: rest) env) Q E s := flat_if0 (h _ (fun _ k => k) fun _ k => k)
theorem thb_ite {K : Bool → Shared → Prop} {b : Bool} {s' : Shared} (h : if b = true then ThB K true s' else ThB K false s') : ThB K b s' := by cases b <;> exact h
theorem if_p {test : PySem.Expr} {body orelse : List Stmt} {pos : Pos} {lit : Bool} {n : Nat} {P : Prop} (F : Fr h₀ env.locals s.heap m) (hc : tstP env m lit n test = some (.p P))
    (h1 : ∀ tk, P → wpAny (model prog w) A (execs (body ++ rest) env) Q E { s with toks := tk }) (h0 : ∀ tk, ¬ P → wpAny (model prog w) A (execs (orelse ++ rest) env) Q E { s with toks := tk }) :
    wpAny (model prog w) A (execs (.If test body orelse pos :: rest) env) Q E s := by
  refine flat_if0 (tst_ok lit n _ _ hc s _ F fun b tk hb => ?_)
  cases b
  · exact h0 tk fun hp => Bool.false_ne_true (hb.mpr hp)
  · exact h1 tk (hb.mp rfl)
theorem if_pb {test : PySem.Expr} {body orelse : List Stmt} {pos : Pos} {lit : Bool} {n : Nat} {b : Bool} (F : Fr h₀ env.locals s.heap m) (hc : tstP env m lit n test = some (.p (b = true)))
    (h1 : ∀ tk, b = true → wpAny (model prog w) A (execs (body ++ rest) env) Q E { s with toks := tk }) (h0 : ∀ tk, b = false → wpAny (model prog w) A (execs (orelse ++ rest) env) Q E { s with toks := tk }) :
    wpAny (model prog w) A (execs (.If test body orelse pos :: rest) env) Q E s :=
  if_p F hc h1 fun tk h => h0 tk (eq_false_of_ne_true h)
theorem if_T {test : PySem.Expr} {body orelse : List Stmt} {pos : Pos} {lit : Bool} {n : Nat} (F : Fr h₀ env.locals s.heap m) (hc : tstP env m lit n test = some .T)
    (h1 : ∀ tk, wpAny (model prog w) A (execs (body ++ rest) env) Q E { s with toks := tk }) :
    wpAny (model prog w) A (execs (.If test body orelse pos :: rest) env) Q E s := by
  refine flat_if0 (tst_ok lit n _ _ hc s _ F fun b tk hb => ?_)
  cases hb.mpr trivial
  exact h1 tk
theorem if_F {test : PySem.Expr} {body orelse : List Stmt} {pos : Pos} {lit : Bool} {n : Nat} (F : Fr h₀ env.locals s.heap m) (hc : tstP env m lit n test = some .F)
    (h1 : ∀ tk, wpAny (model prog w) A (execs (orelse ++ rest) env) Q E { s with toks := tk }) :
    wpAny (model prog w) A (execs (.If test body orelse pos :: rest) env) Q E s := by
  refine flat_if0 (tst_ok lit n _ _ hc s _ F fun b tk hb => ?_)
  cases b
  · exact h1 tk
  · exact (hb.mp rfl).elim
theorem asg_ev {x : Str} {p pos : Pos} {value : PySem.Expr} {n : Nat} {R : Tok → Value} {L : Addr} {news : List (Addr × Obj)} (F : Fr h₀ L s.heap m) (N : News h₀ L s.heap news) (hL : env.locals = L) (hx : locOk env x = true) (hs : swapsWith value (some (.Name x p)) pos.line env = pure false)
    (he : evW env m n value = some R) (h : ∀ t tk h', let m' := (fun y => if y = x then some (R t) else m y); Fr h₀ L h' m' → News h₀ L h' news → wpAny (model prog w) A (execs rest env) Q E { s with heap := h', toks := tk }) :
    wpAny (model prog w) A (execs (.Assign [.Name x p] value pos :: rest) env) Q E s := by
  subst hL
  refine wpAny_execs_cons (wpAny_Assign_Name (evW_ok he F fun t tk => ?_) hs)
  exact wpAny_storeName_local (s := { s with toks := tk }) (locOk_k hx).2.1 F.ns (fun h' hn hs' => h t _ h' (F.set hn hs') (N.set hs')) (by rw [(locOk_k hx).1]; rfl)
/-- a value stored under a name -/
theorem store_ev {x : Str} {v : Value} {L : Addr} {news : List (Addr × Obj)} {Q : Unit → Shared → Prop} (F : Fr h₀ L s.heap m) (N : News h₀ L s.heap news) (hL : env.locals = L) (hx : locOk env x = true)
    (h : ∀ h' tk, let m' := (fun y => if y = x then some v else m y); Fr h₀ L h' m' → News h₀ L h' news → Q () { s with heap := h', toks := tk }) : wpAny (model prog w) A (storeName env x v) Q E s := by
  subst hL
  exact wpAny_storeName_local (locOk_k hx).2.1 F.ns (fun h' hn hs' => h h' _ (F.set hn hs') (N.set hs')) (by rw [(locOk_k hx).1]; rfl)
/-- a statement's rest kept behind a name while its value is reckoned -/
theorem flat_asg {x : Str} {p pos : Pos} {value : PySem.Expr} (h : ∀ K : Value → Shared → Prop, (∀ v s₁, wpAny (model prog w) A (storeName env x v) (fun _ s₂ => wpAny (model prog w) A (execs rest env) Q E s₂) E s₁ → Thn K v s₁) → wpAny (model prog w) A (eval value env) (Thn K) E s) (hs : swapsWith value (some (.Name x p)) pos.line env = pure false) :
    wpAny (model prog w) A (execs (.Assign [.Name x p] value pos :: rest) env) Q E s := wpAny_execs_cons (wpAny_Assign_Name (h _ fun _ _ k => k) hs)
theorem ret_ev {e : PySem.Expr} {pos : Pos} {n : Nat} {R : Tok → Value} (F : Fr h₀ env.locals s.heap m) (he : evW env m n e = some R) (h : ∀ t tk, Q (.ret (R t)) { s with toks := tk }) :
    wpAny (model prog w) A (execs (.Return (some e) pos :: rest) env) Q E s := wpAny_execs_cons (wpAny_Return_some (evW_ok he F h))
theorem flat_ret {e : PySem.Expr} {pos : Pos} (h : ∀ K : Value → Shared → Prop, (∀ v s', Q (.ret v) s' → Thn K v s') → wpAny (model prog w) A (eval e env) (Thn K) E s) : wpAny (model prog w) A (execs (.Return (some e) pos :: rest) env) Q E s := wpAny_execs_cons (wpAny_Return_some (h _ fun _ _ k => k))
theorem flat_expr {e : PySem.Expr} {pos : Pos} (h : ∀ K : Value → Shared → Prop, (∀ s', wpAny (model prog w) A (execs rest env) Q E s' → Thn K .none s') → wpAny (model prog w) A (eval e env) (Thn K) E s) (hi : interactive env = false) (hs : swapsWith e none pos.line env = pure false) :
    wpAny (model prog w) A (execs (.Expr e pos :: rest) env) Q E s :=
  wpAny_execs_cons (wpAny_Expr (wpAny_mono (h (fun v s' => v = .none ∧ wpAny (model prog w) A (execs rest env) Q E s') fun _ k => ⟨rfl, k⟩) (fun v s' k => by obtain ⟨rfl, k⟩ := k; exact k) fun _ _ x => x) hi hs)
/-- what stands behind a def's end and behind its raises kept behind names -/
theorem hide_def {t : Sem Flow} {P : Value → Shared → Prop} {g : Flow → Value} (h : ∀ K X : Value → Shared → Prop, (∀ v s', P v s' → Rtn K v s') → wpAny (model prog w) A t (fun fl s' => Rtn K (g fl) s') X s) : wpAny (model prog w) A t (fun fl s' => P (g fl) s') E s := h P E fun _ _ k => k
theorem hide_defR {t : Sem Flow} {P : Value → Shared → Prop} {g : Flow → Value} (h : ∀ K : Value → Shared → Prop, (∀ v s', P v s' → Rtn K v s') → wpAny (model prog w) A t (fun fl s' => Rtn K (g fl) s') E s) : wpAny (model prog w) A t (fun fl s' => P (g fl) s') E s := h P fun _ _ k => k
/-- what stands around kept behind a name -/
theorem let_around {α : Type} {M : Model} {t : Sem α} {Q : α → Shared → Prop} {s : Shared} (h : let A' := A; wpAny M A' t Q E s) : wpAny M A t Q E s := h
theorem hide_turn {t : Sem Flow} (h : ∀ K : Flow → Shared → Prop, (∀ f s', Q f s' → Trn K f s') → wpAny (model prog w) A t (Trn K) E s) : wpAny (model prog w) A t Q E s := h Q fun _ _ k => k
theorem flat_raise {e c : Option PySem.Expr} {pos : Pos} (h : wpAny (model prog w) A (exec (.Raise e c pos) env) (fun _ _ => False) E s) : wpAny (model prog w) A (execs (.Raise e c pos :: rest) env) Q E s :=
  wpAny_execs_cons (wpAny_mono h (fun _ _ x => x.elim) fun _ _ x => x)
theorem flat_cont {pos : Pos} (h : Q .cont s) : wpAny (model prog w) A (execs (.Continue pos :: rest) env) Q E s := wpAny_execs_cons (wpAny_Continue h)
end
/-- plain arguments -/
noncomputable def evL (env : Env) (m : Str → Option Value) (n : Nat) : List PySem.Expr → Option (List (Tok → Value))
  | [] => some []
  | e :: r => (evW env m n e).bind fun R => (evL env m n r).bind fun Rs => some (R :: Rs)
noncomputable def vals : List (Tok → Value) → List Tok → List Value
  | [], _ => []
  | R :: Rs, ts => R (ts.headD 0) :: vals Rs ts.tail
theorem star_of {n : Nat} {e : PySem.Expr} {r : List PySem.Expr} {R : Tok → Value} (h : evW env m n e = some R) : starEach (e :: r) env = (false, eval e env) :: starEach r env := by
  unfold evW at h
  generalize view e = v at h
  cases v with
  | name | const | bin => rfl
  | cmp | bool | un | other => cases h
theorem evL_ok {n : Nat} {pos : Pos} : ∀ (es : List PySem.Expr) (Rs : List (Tok → Value)), evL env m n es = some Rs → (backTo pos (starEach es env)).any (·.1) = false ∧ ∀ (s : Shared) (Q : List Value → Shared → Prop), Fr h₀ env.locals s.heap m → (∀ ts tk, Q (vals Rs ts) { s with toks := tk }) → wpAny (model prog w) A (spliced (backTo pos (starEach es env))) Q E s
  | [], Rs, h => by cases h; exact ⟨rfl, fun s Q F hQ => args_nil (hQ [] s.toks)⟩
  | e :: r, Rs, h => by
    obtain ⟨R, h1, h⟩ := Option.bind_eq_some_iff.mp h
    obtain ⟨Rs', h2, h⟩ := Option.bind_eq_some_iff.mp h
    cases h
    have ih := evL_ok (pos := pos) r Rs' h2
    rw [star_of h1]
    refine ⟨(Bool.false_or _).trans ih.1, fun s Q F hQ => ?_⟩
    rw [← star_of h1]
    exact args_cons (evW_ok h1 F fun t tk => ih.2 _ _ F fun ts tk' => hQ (t :: ts) tk') (star_of h1)
section
variable {s : Shared} {L : Addr} {a : Addr} {cn : Str} {cs : Scope} {ccd : Value} {cl : List (Str × Addr)} {K : Frag} {p : Program} {loose : List Str} {mg mb : Str → Option Value} {Q : Value → Shared → Prop} {e : PySem.Expr} {es : List PySem.Expr} {fp pos : Pos} {n : Nat} {Rs : List (Tok → Value)} {x : Str}
/-- arguments that are reckoned -/
theorem args_ev {Q : List Value → Shared → Prop} (F : Fr h₀ env.locals s.heap m) (he : evL env m n (e :: es) = some Rs) (h : ∀ ts tk, Q (vals Rs ts) { s with toks := tk }) : wpAny (model prog w) A (spliced (backTo pos (starEach (e :: es) env))) Q E s :=
  (evL_ok _ _ he).2 s _ F h
theorem evL_star (he : evL env m n (e :: es) = some Rs) : starEach (e :: es) env = (false, eval e env) :: starEach es env := by
  obtain ⟨R, h1, h⟩ := Option.bind_eq_some_iff.mp he
  exact star_of h1
theorem evL_rest {prog : Program} {w : World} {A : Around} {E : Value → Shared → Prop} {h₀ : Heap} (he : evL env m n (e :: es) = some Rs) : (backTo pos (starEach es env)).any (·.1) = false := by
  obtain ⟨R, h1, h⟩ := Option.bind_eq_some_iff.mp he
  obtain ⟨Rs', h2, h⟩ := Option.bind_eq_some_iff.mp h
  exact (evL_ok (prog := prog) (w := w) (A := A) (E := E) (h₀ := h₀) _ _ h2).1
/-- a def of the text called with plain arguments -/
theorem call_ev {f : Addr} (F : Fr h₀ L s.heap m) (X : K.In h₀) (T : TopRead p loose mg mb h₀) (hf : nsIn K mainGlobals x = some (some (.ref f))) (hk : keepIn K (.ref f) = true) (he : evL (envX cn cs L a ccd cl) m n (e :: es) = some Rs)
    (h : ∀ ts tk, wpAny (model prog w) A (call (.ref f) (vals Rs ts)) Q E { s with toks := tk }) (h1 : cs.kind = .function) (h2 : (envX cn cs L a ccd cl).kindOf x = some .globalImplicit) (h3 : (x == ("__debug__" : Str)) = false) :
    wpAny (model prog w) A (eval (.Call (.Name x fp) (e :: es) [] pos) (envX cn cs L a ccd cl)) Q E s :=
  Call_ (nameX_K F X T hf (callWith_K X hk ((evL_ok _ _ he).2 s _ F fun ts tk => ⟨X.keeps F.keep, h ts tk⟩) (evL_star he) (evL_rest (prog := prog) (w := w) (A := A) (E := E) (h₀ := h₀) he)) h1 h2 h3)
noncomputable def plainFn (v : Value) : Bool := match v with
  | .builtin _ => true
  | .type _ => true
  | _ => false
theorem callWith_plain {v : Value} {M : Model} (hv : plainFn v = true) (h : wpAny M A (spliced (backTo pos (starEach (e :: es) env))) (fun vs s₁ => wpAny M A (call v vs) Q E s₁) E s) (he : starEach (e :: es) env = (false, eval e env) :: starEach es env) (hp : (backTo pos (starEach es env)).any (·.1) = false) :
    wpAny M A (callWith pos v [] (backTo pos (starEach (e :: es) env)) []) Q E s := by
  unfold plainFn at hv
  split at hv
  · exact callWith_builtin1 h he hp
  · exact Pv.callWith_type1 h he hp
  · cases hv
/-- a built-in function or type called with plain arguments -/
theorem callN_ev {v : Value} (F : Fr h₀ L s.heap m) (X : K.In h₀) (T : TopRead p loose mg mb h₀) (hf : nsIn K mainGlobals x = some none) (hb : bootBuiltins x = some v) (hv : plainFn v = true) (hn : x ≠ "__name__") (he : evL (envX cn cs L a ccd cl) m n (e :: es) = some Rs)
    (h : ∀ ts tk, wpAny (model prog w) A (call v (vals Rs ts)) Q E { s with toks := tk }) (h1 : cs.kind = .function) (h2 : (envX cn cs L a ccd cl).kindOf x = some .globalImplicit) (h3 : (x == ("__debug__" : Str)) = false) :
    wpAny (model prog w) A (eval (.Call (.Name x fp) (e :: es) [] pos) (envX cn cs L a ccd cl)) Q E s :=
  Call_ (nameX_B F X T hf hb hn (callWith_plain hv ((evL_ok _ _ he).2 s _ F h) (evL_star he) (evL_rest (prog := prog) (w := w) (A := A) (E := E) (h₀ := h₀) he)) h1 h2 h3)
end
end
end


section
/-- where the walk is to stop -/
def Stop (P : Prop) : Prop := P
theorem stop {P : Prop} (h : Stop P) : P := h
theorem Stop.go {P : Prop} (h : P) : Stop P := h
section
variable {prog : Program} {w : World} {A : Around} {E : Value → Shared → Prop} {s : Shared} {h₀ : Heap} {L a : Addr} {m : Str → Option Value} {cn x : Str} {cs : Scope} {ccd : Value} {cl : List (Str × Addr)} {Q : Bool → Shared → Prop} {v i : Int} {t : Tok} {k : Nat} {px pc pp : Pos} {wh : Sem Value}
/-- a name against a number, at one step -/
theorem test_eq (F : Fr h₀ L s.heap m) (hv : m x = some (.int v t)) (h : Q (v == i) { s with toks := s.toks + 1 }) (hk : cs.kind = .function) (hx : (envX cn cs L a ccd cl).kindOf x = some .local) (hd : (x == ("__debug__" : Str)) = false) :
    wpAny (model prog w) A (isTrue (.Compare (.Name x px) [.Eq] [.Constant (.int i) k pc] pp) (envX cn cs L a ccd cl) wh) Q E s :=
  wpAny_isTrue_Compare1 (nameX_L F hv (wpAny_Constant_int (eq_int (wpAny_truthy_bool h))) hk hx hd)
/-- a name against a number, at one step -/
theorem test_ne (F : Fr h₀ L s.heap m) (hv : m x = some (.int v t)) (h : Q (v != i) { s with toks := s.toks + 1 }) (hk : cs.kind = .function) (hx : (envX cn cs L a ccd cl).kindOf x = some .local) (hd : (x == ("__debug__" : Str)) = false) :
    wpAny (model prog w) A (isTrue (.Compare (.Name x px) [.NotEq] [.Constant (.int i) k pc] pp) (envX cn cs L a ccd cl) wh) Q E s :=
  wpAny_isTrue_Compare1 (nameX_L F hv (wpAny_Constant_int (ne_int (wpAny_truthy_bool h))) hk hx hd)
/-- a name against a number, at one step -/
theorem test_lt (F : Fr h₀ L s.heap m) (hv : m x = some (.int v t)) (h : Q (decide (v < i)) { s with toks := s.toks + 1 }) (hk : cs.kind = .function) (hx : (envX cn cs L a ccd cl).kindOf x = some .local) (hd : (x == ("__debug__" : Str)) = false) :
    wpAny (model prog w) A (isTrue (.Compare (.Name x px) [.Lt] [.Constant (.int i) k pc] pp) (envX cn cs L a ccd cl) wh) Q E s :=
  wpAny_isTrue_Compare1 (nameX_L F hv (wpAny_Constant_int (lt_int (wpAny_truthy_bool h))) hk hx hd)
/-- a name against a number, at one step -/
theorem test_le (F : Fr h₀ L s.heap m) (hv : m x = some (.int v t)) (h : Q (decide (v ≤ i)) { s with toks := s.toks + 1 }) (hk : cs.kind = .function) (hx : (envX cn cs L a ccd cl).kindOf x = some .local) (hd : (x == ("__debug__" : Str)) = false) :
    wpAny (model prog w) A (isTrue (.Compare (.Name x px) [.LtE] [.Constant (.int i) k pc] pp) (envX cn cs L a ccd cl) wh) Q E s :=
  wpAny_isTrue_Compare1 (nameX_L F hv (wpAny_Constant_int (le_int (wpAny_truthy_bool h))) hk hx hd)
/-- a name against a number, at one step -/
theorem test_ge (F : Fr h₀ L s.heap m) (hv : m x = some (.int v t)) (h : Q (decide (v ≥ i)) { s with toks := s.toks + 1 }) (hk : cs.kind = .function) (hx : (envX cn cs L a ccd cl).kindOf x = some .local) (hd : (x == ("__debug__" : Str)) = false) :
    wpAny (model prog w) A (isTrue (.Compare (.Name x px) [.GtE] [.Constant (.int i) k pc] pp) (envX cn cs L a ccd cl) wh) Q E s :=
  wpAny_isTrue_Compare1 (nameX_L F hv (wpAny_Constant_int (ge_int (wpAny_truthy_bool h))) hk hx hd)
end
/-- what a def that only reads is asked: it gives back a value by which the rest goes on -/
abbrev RetV (h₀ : Heap) (L : Addr) (m : Str → Option Value) (news : List (Addr × Obj)) (s : Shared) (Q : Value → Shared → Prop) (R : Tok → Value) : Prop :=
  ∀ (t : Tok) (h' : Heap) (tk' : Nat), Fr h₀ L h' m → News h₀ L h' news → Q (R t) { s with heap := h', toks := tk' }
abbrev Claim (prog : Program) (w : World) (p : Program) (loose : List Str) (mean : ExcName → Option Value) (mg mb : Str → Option Value) (f : Addr) (need : Nat) (vs : List Value) (R : Tok → Value) (kw : List (Str × Value) := []) : Prop :=
  ∀ (dp un : Nat) (gd : Option (List Code)) (cn : Str) (cs : Scope) (a : Addr) (ccd : Value) (cl : List (Str × Addr)) (outer : List Env) (A₀ : Around) (base h₀ : Heap) (L : Addr) (m : Str → Option Value) (news : List (Addr × Obj)) (s : Shared) (Q E : Value → Shared → Prop),
    Below A₀ base outer h₀ → Fr h₀ L s.heap m → (hd.heap_39 w.params).In h₀ → News h₀ L s.heap news → Top p loose mean mg mb h₀ → cs.kind = .function →
    dp + need < recursionLimit → un + 8 * need < cLine → RetV h₀ L m news s Q R →
      wpAny (model prog w) (ktrTop dp un gd cn cs L a ccd cl outer) (call (.ref f) vs kw) Q E s
theorem retV {h₀ h' : Heap} {L : Addr} {m : Str → Option Value} {news news' : List (Addr × Obj)} {s : Shared} {Q : Value → Shared → Prop} {R : Tok → Value} {v : Value} {tk' : Nat} (t : Tok)
    (hret : ∀ (t : Tok) (h' : Heap) (tk' : Nat), Fr h₀ L h' m → News h₀ L h' news → Q (R t) { s with heap := h', toks := tk' }) (F : Fr h₀ L h' m) (N : News h₀ L h' news') (hs : ∀ p ∈ news, p ∈ news') (e : v = R t) : Q v { s with heap := h', toks := tk' } := by
  subst e
  exact hret t h' tk' F fun p hp => N p (hs p hp)
section
variable {prog : Program} {w : World} {p : Program} {loose : List Str} {mean : ExcName → Option Value} {mg mb : Str → Option Value}
def b64val (c : Int) : Int := if 65 ≤ c ∧ c ≤ 90 then c - 65 else if 97 ≤ c ∧ c ≤ 122 then c - 71 else if 48 ≤ c ∧ c ≤ 57 then c + 4 else if c = 43 then 62 else if c = 47 then 63 else 64
def hexval (c : Int) : Int := if 48 ≤ c ∧ c ≤ 57 then c - 48 else if 65 ≤ c ∧ c ≤ 70 then c - 55 else if 97 ≤ c ∧ c ≤ 102 then c - 87 else 16
theorem b64_value (c : Int) (tc : Tok) : Claim prog w p loose mean mg mb 92 1 [.int c tc] (fun t => .int (b64val c) t) := by
  dsimp only [Claim, RetV]
  intros
  rename_i hret
  refine wpAny_call ?_
  cell_enter
  k_with_none
  k_with "exec If" => (with_reducible refine wpAny_If ?_)
  k_with "isTrue Compare" => ((with_reducible show wpAny _ _ (isTrue (Expr.Compare (Expr.Name _ _) [CmpOp.Eq] [Expr.Constant (Const.int _) _ _] _) _ _) _ _ _); k_dflt (refine' test_eq ?F ?v ?_ ?a ?b ?d; (case F => k_asm); (case a => rfl); (case b => rfl); (case d => decide); (case v => rfl)); (try dsimp only))
  k_with "isTrue Compare" => ((with_reducible show wpAny _ _ (isTrue (Expr.Compare (Expr.Name _ _) [CmpOp.NotEq] [Expr.Constant (Const.int _) _ _] _) _ _) _ _ _); k_dflt (refine' test_ne ?F ?v ?_ ?a ?b ?d; (case F => k_asm); (case a => rfl); (case b => rfl); (case d => decide); (case v => rfl)); (try dsimp only))
  k_with "isTrue Compare" => ((with_reducible show wpAny _ _ (isTrue (Expr.Compare (Expr.Name _ _) [CmpOp.Lt] [Expr.Constant (Const.int _) _ _] _) _ _) _ _ _); k_dflt (refine' test_lt ?F ?v ?_ ?a ?b ?d; (case F => k_asm); (case a => rfl); (case b => rfl); (case d => decide); (case v => rfl)); (try dsimp only))
  k_with "isTrue Compare" => ((with_reducible show wpAny _ _ (isTrue (Expr.Compare (Expr.Name _ _) [CmpOp.LtE] [Expr.Constant (Const.int _) _ _] _) _ _) _ _ _); k_dflt (refine' test_le ?F ?v ?_ ?a ?b ?d; (case F => k_asm); (case a => rfl); (case b => rfl); (case d => decide); (case v => rfl)); (try dsimp only))
  k_with "isTrue Compare" => ((with_reducible show wpAny _ _ (isTrue (Expr.Compare (Expr.Name _ _) [CmpOp.GtE] [Expr.Constant (Const.int _) _ _] _) _ _) _ _ _); k_dflt (refine' test_ge ?F ?v ?_ ?a ?b ?d; (case F => k_asm); (case a => rfl); (case b => rfl); (case d => decide); (case v => rfl)); (try dsimp only))
  k_with "Thn" => first | (refine hK9 _ _ ?_; (try clear hK9); (try dsimp only)) | (refine hK9 _ ?_; (try clear hK9); (try dsimp only))
  k_with "Rtn" => (refine hR9 _ _ ?_)
  k_with "Trn" => (refine hN9 _ _ ?_; (try dsimp only))
  k_with "ThB" => refine thb_ite ?_
  k_with "ThB true" => (refine hT9 _ ?_; (try clear hT9 hF9); (try dsimp only [List.cons_append, List.nil_append, List.append_nil]))
  k_with "ThB false" => (refine hF9 _ ?_; (try clear hT9 hF9); (try dsimp only [List.cons_append, List.nil_append, List.append_nil]))
  k_with "execs cons If" => (refine flat_if ?_; intro K9 hT9 hF9)
  k_with "execs cons If" => k_dflt ((first | (refine' if_pb (lit := false) (n := 6) ?F ?c ?_ ?_; (case F => k_asm); (case c => exact rfl)) | (refine' if_p (lit := false) (n := 6) ?F ?c ?_ ?_; (case F => k_asm); (case c => exact rfl))); (all_goals (intro k9 hb9; first | (exfalso; omega) | dsimp only [List.cons_append, List.nil_append, List.append_nil] | skip)))
  k_with "execs cons If" => k_dflt ((first | (refine' if_T (lit := true) (n := 6) ?F ?c ?_; (case F => k_asm); (case c => exact rfl)) | (refine' if_F (lit := true) (n := 6) ?F ?c ?_; (case F => k_asm); (case c => exact rfl))); intro k9; (try dsimp only [List.cons_append, List.nil_append, List.append_nil]))
  k_with "execs cons If" => k_dflt (refine' if_p (lit := true) (n := 6) ?F ?c ?_ ?_; (case F => k_asm); (case c => exact rfl); (all_goals (intro k9 hb9; first | (exfalso; omega) | dsimp only [List.cons_append, List.nil_append, List.append_nil] | skip)))
  k_with "execs cons Assign" => ((fail_if_success (with_reducible show wpAny _ _ (execs (Stmt.Assign _ (Expr.ListComp _ _ _ _) _ :: _) _) _ _ _)); refine' flat_asg ?_ ?s; (case s => exact rfl); intro K9 hK9)
  k_with "execs cons Assign" => k_dflt (refine' asg_ev (n := 6) ?F ?N ?L ?x ?s ?e ?_; (case F => k_asm); (case N => k_asm); (case L => exact rfl); (case x => exact rfl); (case s => exact rfl); (case e => exact rfl); intro t9 k9 h' m9 F' N'; (try dsimp only); (try k_sweep))
  k_with "storeName" => k_dflt (refine' store_ev ?F ?N ?L ?x ?_; (case F => k_asm); (case N => k_asm); (case L => exact rfl); (case x => exact rfl); intro h' k9 m9 F' N'; (try dsimp only); (try k_sweep))
  k_with "execs cons Return" => (refine flat_ret ?_; intro K9 hK9)
  k_with "execs cons Return" => k_dflt (refine' ret_ev (n := 6) ?F ?e ?_; (case F => k_asm); (case e => exact rfl); intro t9 k9; (try dsimp only))
  k_with "execs cons Expr" => (refine' flat_expr ?_ ?i ?s; (case i => exact rfl); (case s => exact rfl); intro K9 hK9)
  k_with "execs cons Raise" => refine flat_raise ?_
  k_with "execs cons Continue" => refine flat_cont ?_
  k_with "spliced" => plain_pass; k_dflt (refine' args_ev (n := 6) ?F ?e ?_; (case F => k_asm); (case e => exact rfl); intro t9 k9; (try dsimp only [vals, List.cons_append, List.nil_append]))
  k_with "eval Call Name" => plain_pass; k_dflt (refine' callN_ev (n := 6) ?F ?X ?T ?f ?v ?w ?g ?e ?_ ?a ?b ?d; (case F => k_asm); (case e => exact rfl); (case b => exact rfl); (case X => k_asm); (case T => k_asm); (case a => exact rfl); (case f => k_is); (case v => boot_fast); (case w => exact rfl); (case g => decide); (case d => decide); intro t9 k9; (try dsimp only [vals]))
  k_with "eval Call Name" => plain_pass; k_dflt (refine' call_ev (n := 6) ?F ?X ?T ?f ?k ?e ?_ ?a ?b ?d; (case F => k_asm); (case e => exact rfl); (case b => exact rfl); (case X => k_asm); (case T => k_asm); (case a => exact rfl); (case f => k_is); (case k => k_is); (case d => decide); intro t9 k9; (try dsimp only [vals]))
  k_steps
  all_goals (refine cb_retI hret ?_ (by k_asm) (by k_asm); unfold b64val; (repeat' split) <;> omega)
theorem hex_value (c : Int) (tc : Tok) : Claim prog w p loose mean mg mb 124 1 [.int c tc] (fun t => .int (hexval c) t) := by
  dsimp only [Claim, RetV]
  intros
  rename_i hret
  refine wpAny_call ?_
  cell_enter
  k_with_none
  k_with "exec If" => (with_reducible refine wpAny_If ?_)
  k_with "isTrue Compare" => ((with_reducible show wpAny _ _ (isTrue (Expr.Compare (Expr.Name _ _) [CmpOp.Eq] [Expr.Constant (Const.int _) _ _] _) _ _) _ _ _); k_dflt (refine' test_eq ?F ?v ?_ ?a ?b ?d; (case F => k_asm); (case a => rfl); (case b => rfl); (case d => decide); (case v => rfl)); (try dsimp only))
  k_with "isTrue Compare" => ((with_reducible show wpAny _ _ (isTrue (Expr.Compare (Expr.Name _ _) [CmpOp.NotEq] [Expr.Constant (Const.int _) _ _] _) _ _) _ _ _); k_dflt (refine' test_ne ?F ?v ?_ ?a ?b ?d; (case F => k_asm); (case a => rfl); (case b => rfl); (case d => decide); (case v => rfl)); (try dsimp only))
  k_with "isTrue Compare" => ((with_reducible show wpAny _ _ (isTrue (Expr.Compare (Expr.Name _ _) [CmpOp.Lt] [Expr.Constant (Const.int _) _ _] _) _ _) _ _ _); k_dflt (refine' test_lt ?F ?v ?_ ?a ?b ?d; (case F => k_asm); (case a => rfl); (case b => rfl); (case d => decide); (case v => rfl)); (try dsimp only))
  k_with "isTrue Compare" => ((with_reducible show wpAny _ _ (isTrue (Expr.Compare (Expr.Name _ _) [CmpOp.LtE] [Expr.Constant (Const.int _) _ _] _) _ _) _ _ _); k_dflt (refine' test_le ?F ?v ?_ ?a ?b ?d; (case F => k_asm); (case a => rfl); (case b => rfl); (case d => decide); (case v => rfl)); (try dsimp only))
  k_with "isTrue Compare" => ((with_reducible show wpAny _ _ (isTrue (Expr.Compare (Expr.Name _ _) [CmpOp.GtE] [Expr.Constant (Const.int _) _ _] _) _ _) _ _ _); k_dflt (refine' test_ge ?F ?v ?_ ?a ?b ?d; (case F => k_asm); (case a => rfl); (case b => rfl); (case d => decide); (case v => rfl)); (try dsimp only))
  k_with "Thn" => first | (refine hK9 _ _ ?_; (try clear hK9); (try dsimp only)) | (refine hK9 _ ?_; (try clear hK9); (try dsimp only))
  k_with "Rtn" => (refine hR9 _ _ ?_)
  k_with "Trn" => (refine hN9 _ _ ?_; (try dsimp only))
  k_with "ThB" => refine thb_ite ?_
  k_with "ThB true" => (refine hT9 _ ?_; (try clear hT9 hF9); (try dsimp only [List.cons_append, List.nil_append, List.append_nil]))
  k_with "ThB false" => (refine hF9 _ ?_; (try clear hT9 hF9); (try dsimp only [List.cons_append, List.nil_append, List.append_nil]))
  k_with "execs cons If" => (refine flat_if ?_; intro K9 hT9 hF9)
  k_with "execs cons If" => k_dflt ((first | (refine' if_pb (lit := false) (n := 6) ?F ?c ?_ ?_; (case F => k_asm); (case c => exact rfl)) | (refine' if_p (lit := false) (n := 6) ?F ?c ?_ ?_; (case F => k_asm); (case c => exact rfl))); (all_goals (intro k9 hb9; first | (exfalso; omega) | dsimp only [List.cons_append, List.nil_append, List.append_nil] | skip)))
  k_with "execs cons If" => k_dflt ((first | (refine' if_T (lit := true) (n := 6) ?F ?c ?_; (case F => k_asm); (case c => exact rfl)) | (refine' if_F (lit := true) (n := 6) ?F ?c ?_; (case F => k_asm); (case c => exact rfl))); intro k9; (try dsimp only [List.cons_append, List.nil_append, List.append_nil]))
  k_with "execs cons If" => k_dflt (refine' if_p (lit := true) (n := 6) ?F ?c ?_ ?_; (case F => k_asm); (case c => exact rfl); (all_goals (intro k9 hb9; first | (exfalso; omega) | dsimp only [List.cons_append, List.nil_append, List.append_nil] | skip)))
  k_with "execs cons Assign" => ((fail_if_success (with_reducible show wpAny _ _ (execs (Stmt.Assign _ (Expr.ListComp _ _ _ _) _ :: _) _) _ _ _)); refine' flat_asg ?_ ?s; (case s => exact rfl); intro K9 hK9)
  k_with "execs cons Assign" => k_dflt (refine' asg_ev (n := 6) ?F ?N ?L ?x ?s ?e ?_; (case F => k_asm); (case N => k_asm); (case L => exact rfl); (case x => exact rfl); (case s => exact rfl); (case e => exact rfl); intro t9 k9 h' m9 F' N'; (try dsimp only); (try k_sweep))
  k_with "storeName" => k_dflt (refine' store_ev ?F ?N ?L ?x ?_; (case F => k_asm); (case N => k_asm); (case L => exact rfl); (case x => exact rfl); intro h' k9 m9 F' N'; (try dsimp only); (try k_sweep))
  k_with "execs cons Return" => (refine flat_ret ?_; intro K9 hK9)
  k_with "execs cons Return" => k_dflt (refine' ret_ev (n := 6) ?F ?e ?_; (case F => k_asm); (case e => exact rfl); intro t9 k9; (try dsimp only))
  k_with "execs cons Expr" => (refine' flat_expr ?_ ?i ?s; (case i => exact rfl); (case s => exact rfl); intro K9 hK9)
  k_with "execs cons Raise" => refine flat_raise ?_
  k_with "execs cons Continue" => refine flat_cont ?_
  k_with "spliced" => plain_pass; k_dflt (refine' args_ev (n := 6) ?F ?e ?_; (case F => k_asm); (case e => exact rfl); intro t9 k9; (try dsimp only [vals, List.cons_append, List.nil_append]))
  k_with "eval Call Name" => plain_pass; k_dflt (refine' callN_ev (n := 6) ?F ?X ?T ?f ?v ?w ?g ?e ?_ ?a ?b ?d; (case F => k_asm); (case e => exact rfl); (case b => exact rfl); (case X => k_asm); (case T => k_asm); (case a => exact rfl); (case f => k_is); (case v => boot_fast); (case w => exact rfl); (case g => decide); (case d => decide); intro t9 k9; (try dsimp only [vals]))
  k_with "eval Call Name" => plain_pass; k_dflt (refine' call_ev (n := 6) ?F ?X ?T ?f ?k ?e ?_ ?a ?b ?d; (case F => k_asm); (case e => exact rfl); (case b => exact rfl); (case X => k_asm); (case T => k_asm); (case a => exact rfl); (case f => k_is); (case k => k_is); (case d => decide); intro t9 k9; (try dsimp only [vals]))
  k_steps
  all_goals (refine cb_retI hret ?_ (by k_asm) (by k_asm); unfold hexval; (repeat' split) <;> omega)
theorem buffer (b : Array UInt8) (tb : Tok) : Claim prog w p loose mean mg mb 78 1 [.bytes b tb] (fun _ => .bytes b tb) := by
  dsimp only [Claim, RetV]
  intros
  rename_i hret
  refine wpAny_call ?_
  cell_enter
  k_with_none
  k_with "exec If" => (with_reducible refine wpAny_If ?_)
  k_with "isTrue Compare" => ((with_reducible show wpAny _ _ (isTrue (Expr.Compare (Expr.Name _ _) [CmpOp.Eq] [Expr.Constant (Const.int _) _ _] _) _ _) _ _ _); k_dflt (refine' test_eq ?F ?v ?_ ?a ?b ?d; (case F => k_asm); (case a => rfl); (case b => rfl); (case d => decide); (case v => rfl)); (try dsimp only))
  k_with "isTrue Compare" => ((with_reducible show wpAny _ _ (isTrue (Expr.Compare (Expr.Name _ _) [CmpOp.NotEq] [Expr.Constant (Const.int _) _ _] _) _ _) _ _ _); k_dflt (refine' test_ne ?F ?v ?_ ?a ?b ?d; (case F => k_asm); (case a => rfl); (case b => rfl); (case d => decide); (case v => rfl)); (try dsimp only))
  k_with "isTrue Compare" => ((with_reducible show wpAny _ _ (isTrue (Expr.Compare (Expr.Name _ _) [CmpOp.Lt] [Expr.Constant (Const.int _) _ _] _) _ _) _ _ _); k_dflt (refine' test_lt ?F ?v ?_ ?a ?b ?d; (case F => k_asm); (case a => rfl); (case b => rfl); (case d => decide); (case v => rfl)); (try dsimp only))
  k_with "isTrue Compare" => ((with_reducible show wpAny _ _ (isTrue (Expr.Compare (Expr.Name _ _) [CmpOp.LtE] [Expr.Constant (Const.int _) _ _] _) _ _) _ _ _); k_dflt (refine' test_le ?F ?v ?_ ?a ?b ?d; (case F => k_asm); (case a => rfl); (case b => rfl); (case d => decide); (case v => rfl)); (try dsimp only))
  k_with "isTrue Compare" => ((with_reducible show wpAny _ _ (isTrue (Expr.Compare (Expr.Name _ _) [CmpOp.GtE] [Expr.Constant (Const.int _) _ _] _) _ _) _ _ _); k_dflt (refine' test_ge ?F ?v ?_ ?a ?b ?d; (case F => k_asm); (case a => rfl); (case b => rfl); (case d => decide); (case v => rfl)); (try dsimp only))
  k_with "Thn" => first | (refine hK9 _ _ ?_; (try clear hK9); (try dsimp only)) | (refine hK9 _ ?_; (try clear hK9); (try dsimp only))
  k_with "Rtn" => (refine hR9 _ _ ?_)
  k_with "Trn" => (refine hN9 _ _ ?_; (try dsimp only))
  k_with "ThB" => refine thb_ite ?_
  k_with "ThB true" => (refine hT9 _ ?_; (try clear hT9 hF9); (try dsimp only [List.cons_append, List.nil_append, List.append_nil]))
  k_with "ThB false" => (refine hF9 _ ?_; (try clear hT9 hF9); (try dsimp only [List.cons_append, List.nil_append, List.append_nil]))
  k_with "execs cons If" => (refine flat_if ?_; intro K9 hT9 hF9)
  k_with "execs cons If" => k_dflt ((first | (refine' if_pb (lit := false) (n := 6) ?F ?c ?_ ?_; (case F => k_asm); (case c => exact rfl)) | (refine' if_p (lit := false) (n := 6) ?F ?c ?_ ?_; (case F => k_asm); (case c => exact rfl))); (all_goals (intro k9 hb9; first | (exfalso; omega) | dsimp only [List.cons_append, List.nil_append, List.append_nil] | skip)))
  k_with "execs cons If" => k_dflt ((first | (refine' if_T (lit := true) (n := 6) ?F ?c ?_; (case F => k_asm); (case c => exact rfl)) | (refine' if_F (lit := true) (n := 6) ?F ?c ?_; (case F => k_asm); (case c => exact rfl))); intro k9; (try dsimp only [List.cons_append, List.nil_append, List.append_nil]))
  k_with "execs cons If" => k_dflt (refine' if_p (lit := true) (n := 6) ?F ?c ?_ ?_; (case F => k_asm); (case c => exact rfl); (all_goals (intro k9 hb9; first | (exfalso; omega) | dsimp only [List.cons_append, List.nil_append, List.append_nil] | skip)))
  k_with "execs cons Assign" => ((fail_if_success (with_reducible show wpAny _ _ (execs (Stmt.Assign _ (Expr.ListComp _ _ _ _) _ :: _) _) _ _ _)); refine' flat_asg ?_ ?s; (case s => exact rfl); intro K9 hK9)
  k_with "execs cons Assign" => k_dflt (refine' asg_ev (n := 6) ?F ?N ?L ?x ?s ?e ?_; (case F => k_asm); (case N => k_asm); (case L => exact rfl); (case x => exact rfl); (case s => exact rfl); (case e => exact rfl); intro t9 k9 h' m9 F' N'; (try dsimp only); (try k_sweep))
  k_with "storeName" => k_dflt (refine' store_ev ?F ?N ?L ?x ?_; (case F => k_asm); (case N => k_asm); (case L => exact rfl); (case x => exact rfl); intro h' k9 m9 F' N'; (try dsimp only); (try k_sweep))
  k_with "execs cons Return" => (refine flat_ret ?_; intro K9 hK9)
  k_with "execs cons Return" => k_dflt (refine' ret_ev (n := 6) ?F ?e ?_; (case F => k_asm); (case e => exact rfl); intro t9 k9; (try dsimp only))
  k_with "execs cons Expr" => (refine' flat_expr ?_ ?i ?s; (case i => exact rfl); (case s => exact rfl); intro K9 hK9)
  k_with "execs cons Raise" => refine flat_raise ?_
  k_with "execs cons Continue" => refine flat_cont ?_
  k_with "spliced" => plain_pass; k_dflt (refine' args_ev (n := 6) ?F ?e ?_; (case F => k_asm); (case e => exact rfl); intro t9 k9; (try dsimp only [vals, List.cons_append, List.nil_append]))
  k_with "eval Call Name" => plain_pass; k_dflt (refine' callN_ev (n := 6) ?F ?X ?T ?f ?v ?w ?g ?e ?_ ?a ?b ?d; (case F => k_asm); (case e => exact rfl); (case b => exact rfl); (case X => k_asm); (case T => k_asm); (case a => exact rfl); (case f => k_is); (case v => boot_fast); (case w => exact rfl); (case g => decide); (case d => decide); intro t9 k9; (try dsimp only [vals]))
  k_with "eval Call Name" => plain_pass; k_dflt (refine' call_ev (n := 6) ?F ?X ?T ?f ?k ?e ?_ ?a ?b ?d; (case F => k_asm); (case e => exact rfl); (case b => exact rfl); (case X => k_asm); (case T => k_asm); (case a => exact rfl); (case f => k_is); (case k => k_is); (case d => decide); intro t9 k9; (try dsimp only [vals]))
  k_with "call type:type" => ((with_reducible show wpAny _ _ (call _ [Value.bytes _ _]) _ _ _); refine call_type_of (Tx := "bytes") rfl (by decide +kernel) ?_)
  k_steps
  all_goals exact hret 0 _ _ (by k_asm) (by k_asm)
theorem ascii_buffer (b : Array UInt8) (tb : Tok) : Claim prog w p loose mean mg mb 71 1 [.bytes b tb] (fun _ => .bytes b tb) := by
  dsimp only [Claim, RetV]
  intros
  rename_i hret
  refine wpAny_call ?_
  cell_enter
  k_with_none
  k_with "exec If" => (with_reducible refine wpAny_If ?_)
  k_with "isTrue Compare" => ((with_reducible show wpAny _ _ (isTrue (Expr.Compare (Expr.Name _ _) [CmpOp.Eq] [Expr.Constant (Const.int _) _ _] _) _ _) _ _ _); k_dflt (refine' test_eq ?F ?v ?_ ?a ?b ?d; (case F => k_asm); (case a => rfl); (case b => rfl); (case d => decide); (case v => rfl)); (try dsimp only))
  k_with "isTrue Compare" => ((with_reducible show wpAny _ _ (isTrue (Expr.Compare (Expr.Name _ _) [CmpOp.NotEq] [Expr.Constant (Const.int _) _ _] _) _ _) _ _ _); k_dflt (refine' test_ne ?F ?v ?_ ?a ?b ?d; (case F => k_asm); (case a => rfl); (case b => rfl); (case d => decide); (case v => rfl)); (try dsimp only))
  k_with "isTrue Compare" => ((with_reducible show wpAny _ _ (isTrue (Expr.Compare (Expr.Name _ _) [CmpOp.Lt] [Expr.Constant (Const.int _) _ _] _) _ _) _ _ _); k_dflt (refine' test_lt ?F ?v ?_ ?a ?b ?d; (case F => k_asm); (case a => rfl); (case b => rfl); (case d => decide); (case v => rfl)); (try dsimp only))
  k_with "isTrue Compare" => ((with_reducible show wpAny _ _ (isTrue (Expr.Compare (Expr.Name _ _) [CmpOp.LtE] [Expr.Constant (Const.int _) _ _] _) _ _) _ _ _); k_dflt (refine' test_le ?F ?v ?_ ?a ?b ?d; (case F => k_asm); (case a => rfl); (case b => rfl); (case d => decide); (case v => rfl)); (try dsimp only))
  k_with "isTrue Compare" => ((with_reducible show wpAny _ _ (isTrue (Expr.Compare (Expr.Name _ _) [CmpOp.GtE] [Expr.Constant (Const.int _) _ _] _) _ _) _ _ _); k_dflt (refine' test_ge ?F ?v ?_ ?a ?b ?d; (case F => k_asm); (case a => rfl); (case b => rfl); (case d => decide); (case v => rfl)); (try dsimp only))
  k_with "Thn" => first | (refine hK9 _ _ ?_; (try clear hK9); (try dsimp only)) | (refine hK9 _ ?_; (try clear hK9); (try dsimp only))
  k_with "Rtn" => (refine hR9 _ _ ?_)
  k_with "Trn" => (refine hN9 _ _ ?_; (try dsimp only))
  k_with "ThB" => refine thb_ite ?_
  k_with "ThB true" => (refine hT9 _ ?_; (try clear hT9 hF9); (try dsimp only [List.cons_append, List.nil_append, List.append_nil]))
  k_with "ThB false" => (refine hF9 _ ?_; (try clear hT9 hF9); (try dsimp only [List.cons_append, List.nil_append, List.append_nil]))
  k_with "execs cons If" => (refine flat_if ?_; intro K9 hT9 hF9)
  k_with "execs cons If" => k_dflt ((first | (refine' if_pb (lit := false) (n := 6) ?F ?c ?_ ?_; (case F => k_asm); (case c => exact rfl)) | (refine' if_p (lit := false) (n := 6) ?F ?c ?_ ?_; (case F => k_asm); (case c => exact rfl))); (all_goals (intro k9 hb9; first | (exfalso; omega) | dsimp only [List.cons_append, List.nil_append, List.append_nil] | skip)))
  k_with "execs cons If" => k_dflt ((first | (refine' if_T (lit := true) (n := 6) ?F ?c ?_; (case F => k_asm); (case c => exact rfl)) | (refine' if_F (lit := true) (n := 6) ?F ?c ?_; (case F => k_asm); (case c => exact rfl))); intro k9; (try dsimp only [List.cons_append, List.nil_append, List.append_nil]))
  k_with "execs cons If" => k_dflt (refine' if_p (lit := true) (n := 6) ?F ?c ?_ ?_; (case F => k_asm); (case c => exact rfl); (all_goals (intro k9 hb9; first | (exfalso; omega) | dsimp only [List.cons_append, List.nil_append, List.append_nil] | skip)))
  k_with "execs cons Assign" => ((fail_if_success (with_reducible show wpAny _ _ (execs (Stmt.Assign _ (Expr.ListComp _ _ _ _) _ :: _) _) _ _ _)); refine' flat_asg ?_ ?s; (case s => exact rfl); intro K9 hK9)
  k_with "execs cons Assign" => k_dflt (refine' asg_ev (n := 6) ?F ?N ?L ?x ?s ?e ?_; (case F => k_asm); (case N => k_asm); (case L => exact rfl); (case x => exact rfl); (case s => exact rfl); (case e => exact rfl); intro t9 k9 h' m9 F' N'; (try dsimp only); (try k_sweep))
  k_with "storeName" => k_dflt (refine' store_ev ?F ?N ?L ?x ?_; (case F => k_asm); (case N => k_asm); (case L => exact rfl); (case x => exact rfl); intro h' k9 m9 F' N'; (try dsimp only); (try k_sweep))
  k_with "execs cons Return" => (refine flat_ret ?_; intro K9 hK9)
  k_with "execs cons Return" => k_dflt (refine' ret_ev (n := 6) ?F ?e ?_; (case F => k_asm); (case e => exact rfl); intro t9 k9; (try dsimp only))
  k_with "execs cons Expr" => (refine' flat_expr ?_ ?i ?s; (case i => exact rfl); (case s => exact rfl); intro K9 hK9)
  k_with "execs cons Raise" => refine flat_raise ?_
  k_with "execs cons Continue" => refine flat_cont ?_
  k_with "spliced" => plain_pass; k_dflt (refine' args_ev (n := 6) ?F ?e ?_; (case F => k_asm); (case e => exact rfl); intro t9 k9; (try dsimp only [vals, List.cons_append, List.nil_append]))
  k_with "eval Call Name" => plain_pass; k_dflt (refine' callN_ev (n := 6) ?F ?X ?T ?f ?v ?w ?g ?e ?_ ?a ?b ?d; (case F => k_asm); (case e => exact rfl); (case b => exact rfl); (case X => k_asm); (case T => k_asm); (case a => exact rfl); (case f => k_is); (case v => boot_fast); (case w => exact rfl); (case g => decide); (case d => decide); intro t9 k9; (try dsimp only [vals]))
  k_with "eval Call Name" => plain_pass; k_dflt (refine' call_ev (n := 6) ?F ?X ?T ?f ?k ?e ?_ ?a ?b ?d; (case F => k_asm); (case e => exact rfl); (case b => exact rfl); (case X => k_asm); (case T => k_asm); (case a => exact rfl); (case f => k_is); (case k => k_is); (case d => decide); intro t9 k9; (try dsimp only [vals]))
  k_with "call type:type" => ((with_reducible show wpAny _ _ (call _ [Value.bytes _ _]) _ _ _); refine call_type_of (Tx := "bytes") rfl (by decide +kernel) ?_)
  k_steps
  all_goals exact hret 0 _ _ (by k_asm) (by k_asm)
theorem truth_bool (b : Bool) : Claim prog w p loose mean mg mb 85 1 [.bool b] (fun _ => .bool b) := by
  dsimp only [Claim, RetV]
  intros
  rename_i hret
  refine wpAny_call ?_
  cell_enter
  k_with_none
  k_with "exec If" => (with_reducible refine wpAny_If ?_)
  k_with "isTrue Compare" => ((with_reducible show wpAny _ _ (isTrue (Expr.Compare (Expr.Name _ _) [CmpOp.Eq] [Expr.Constant (Const.int _) _ _] _) _ _) _ _ _); k_dflt (refine' test_eq ?F ?v ?_ ?a ?b ?d; (case F => k_asm); (case a => rfl); (case b => rfl); (case d => decide); (case v => rfl)); (try dsimp only))
  k_with "isTrue Compare" => ((with_reducible show wpAny _ _ (isTrue (Expr.Compare (Expr.Name _ _) [CmpOp.NotEq] [Expr.Constant (Const.int _) _ _] _) _ _) _ _ _); k_dflt (refine' test_ne ?F ?v ?_ ?a ?b ?d; (case F => k_asm); (case a => rfl); (case b => rfl); (case d => decide); (case v => rfl)); (try dsimp only))
  k_with "isTrue Compare" => ((with_reducible show wpAny _ _ (isTrue (Expr.Compare (Expr.Name _ _) [CmpOp.Lt] [Expr.Constant (Const.int _) _ _] _) _ _) _ _ _); k_dflt (refine' test_lt ?F ?v ?_ ?a ?b ?d; (case F => k_asm); (case a => rfl); (case b => rfl); (case d => decide); (case v => rfl)); (try dsimp only))
  k_with "isTrue Compare" => ((with_reducible show wpAny _ _ (isTrue (Expr.Compare (Expr.Name _ _) [CmpOp.LtE] [Expr.Constant (Const.int _) _ _] _) _ _) _ _ _); k_dflt (refine' test_le ?F ?v ?_ ?a ?b ?d; (case F => k_asm); (case a => rfl); (case b => rfl); (case d => decide); (case v => rfl)); (try dsimp only))
  k_with "isTrue Compare" => ((with_reducible show wpAny _ _ (isTrue (Expr.Compare (Expr.Name _ _) [CmpOp.GtE] [Expr.Constant (Const.int _) _ _] _) _ _) _ _ _); k_dflt (refine' test_ge ?F ?v ?_ ?a ?b ?d; (case F => k_asm); (case a => rfl); (case b => rfl); (case d => decide); (case v => rfl)); (try dsimp only))
  k_with "Thn" => first | (refine hK9 _ _ ?_; (try clear hK9); (try dsimp only)) | (refine hK9 _ ?_; (try clear hK9); (try dsimp only))
  k_with "Rtn" => (refine hR9 _ _ ?_)
  k_with "Trn" => (refine hN9 _ _ ?_; (try dsimp only))
  k_with "ThB" => refine thb_ite ?_
  k_with "ThB true" => (refine hT9 _ ?_; (try clear hT9 hF9); (try dsimp only [List.cons_append, List.nil_append, List.append_nil]))
  k_with "ThB false" => (refine hF9 _ ?_; (try clear hT9 hF9); (try dsimp only [List.cons_append, List.nil_append, List.append_nil]))
  k_with "execs cons If" => (refine flat_if ?_; intro K9 hT9 hF9)
  k_with "execs cons If" => k_dflt ((first | (refine' if_pb (lit := false) (n := 6) ?F ?c ?_ ?_; (case F => k_asm); (case c => exact rfl)) | (refine' if_p (lit := false) (n := 6) ?F ?c ?_ ?_; (case F => k_asm); (case c => exact rfl))); (all_goals (intro k9 hb9; first | (exfalso; omega) | dsimp only [List.cons_append, List.nil_append, List.append_nil] | skip)))
  k_with "execs cons If" => k_dflt ((first | (refine' if_T (lit := true) (n := 6) ?F ?c ?_; (case F => k_asm); (case c => exact rfl)) | (refine' if_F (lit := true) (n := 6) ?F ?c ?_; (case F => k_asm); (case c => exact rfl))); intro k9; (try dsimp only [List.cons_append, List.nil_append, List.append_nil]))
  k_with "execs cons If" => k_dflt (refine' if_p (lit := true) (n := 6) ?F ?c ?_ ?_; (case F => k_asm); (case c => exact rfl); (all_goals (intro k9 hb9; first | (exfalso; omega) | dsimp only [List.cons_append, List.nil_append, List.append_nil] | skip)))
  k_with "execs cons Assign" => ((fail_if_success (with_reducible show wpAny _ _ (execs (Stmt.Assign _ (Expr.ListComp _ _ _ _) _ :: _) _) _ _ _)); refine' flat_asg ?_ ?s; (case s => exact rfl); intro K9 hK9)
  k_with "execs cons Assign" => k_dflt (refine' asg_ev (n := 6) ?F ?N ?L ?x ?s ?e ?_; (case F => k_asm); (case N => k_asm); (case L => exact rfl); (case x => exact rfl); (case s => exact rfl); (case e => exact rfl); intro t9 k9 h' m9 F' N'; (try dsimp only); (try k_sweep))
  k_with "storeName" => k_dflt (refine' store_ev ?F ?N ?L ?x ?_; (case F => k_asm); (case N => k_asm); (case L => exact rfl); (case x => exact rfl); intro h' k9 m9 F' N'; (try dsimp only); (try k_sweep))
  k_with "execs cons Return" => (refine flat_ret ?_; intro K9 hK9)
  k_with "execs cons Return" => k_dflt (refine' ret_ev (n := 6) ?F ?e ?_; (case F => k_asm); (case e => exact rfl); intro t9 k9; (try dsimp only))
  k_with "execs cons Expr" => (refine' flat_expr ?_ ?i ?s; (case i => exact rfl); (case s => exact rfl); intro K9 hK9)
  k_with "execs cons Raise" => refine flat_raise ?_
  k_with "execs cons Continue" => refine flat_cont ?_
  k_with "spliced" => plain_pass; k_dflt (refine' args_ev (n := 6) ?F ?e ?_; (case F => k_asm); (case e => exact rfl); intro t9 k9; (try dsimp only [vals, List.cons_append, List.nil_append]))
  k_with "eval Call Name" => plain_pass; k_dflt (refine' callN_ev (n := 6) ?F ?X ?T ?f ?v ?w ?g ?e ?_ ?a ?b ?d; (case F => k_asm); (case e => exact rfl); (case b => exact rfl); (case X => k_asm); (case T => k_asm); (case a => exact rfl); (case f => k_is); (case v => boot_fast); (case w => exact rfl); (case g => decide); (case d => decide); intro t9 k9; (try dsimp only [vals]))
  k_with "eval Call Name" => plain_pass; k_dflt (refine' call_ev (n := 6) ?F ?X ?T ?f ?k ?e ?_ ?a ?b ?d; (case F => k_asm); (case e => exact rfl); (case b => exact rfl); (case X => k_asm); (case T => k_asm); (case a => exact rfl); (case f => k_is); (case k => k_is); (case d => decide); intro t9 k9; (try dsimp only [vals]))
  k_with "call type:type" => ((with_reducible show wpAny _ _ (call _ [Value.bytes _ _]) _ _ _); refine call_type_of (Tx := "bytes") rfl (by decide +kernel) ?_)
  k_steps
  all_goals (refine cb_retB hret ?_ (by k_asm) (by k_asm); simp_all)
theorem bytes_from (b : Array UInt8) (tb : Tok) : Claim prog w p loose mean mg mb 51 1 [.bytes b tb] (fun _ => .bytes b tb) := by
  dsimp only [Claim, RetV]
  intros
  rename_i hret
  refine wpAny_call ?_
  cell_enter
  k_with_none
  k_with "exec If" => (with_reducible refine wpAny_If ?_)
  k_with "isTrue Compare" => ((with_reducible show wpAny _ _ (isTrue (Expr.Compare (Expr.Name _ _) [CmpOp.Eq] [Expr.Constant (Const.int _) _ _] _) _ _) _ _ _); k_dflt (refine' test_eq ?F ?v ?_ ?a ?b ?d; (case F => k_asm); (case a => rfl); (case b => rfl); (case d => decide); (case v => rfl)); (try dsimp only))
  k_with "isTrue Compare" => ((with_reducible show wpAny _ _ (isTrue (Expr.Compare (Expr.Name _ _) [CmpOp.NotEq] [Expr.Constant (Const.int _) _ _] _) _ _) _ _ _); k_dflt (refine' test_ne ?F ?v ?_ ?a ?b ?d; (case F => k_asm); (case a => rfl); (case b => rfl); (case d => decide); (case v => rfl)); (try dsimp only))
  k_with "isTrue Compare" => ((with_reducible show wpAny _ _ (isTrue (Expr.Compare (Expr.Name _ _) [CmpOp.Lt] [Expr.Constant (Const.int _) _ _] _) _ _) _ _ _); k_dflt (refine' test_lt ?F ?v ?_ ?a ?b ?d; (case F => k_asm); (case a => rfl); (case b => rfl); (case d => decide); (case v => rfl)); (try dsimp only))
  k_with "isTrue Compare" => ((with_reducible show wpAny _ _ (isTrue (Expr.Compare (Expr.Name _ _) [CmpOp.LtE] [Expr.Constant (Const.int _) _ _] _) _ _) _ _ _); k_dflt (refine' test_le ?F ?v ?_ ?a ?b ?d; (case F => k_asm); (case a => rfl); (case b => rfl); (case d => decide); (case v => rfl)); (try dsimp only))
  k_with "isTrue Compare" => ((with_reducible show wpAny _ _ (isTrue (Expr.Compare (Expr.Name _ _) [CmpOp.GtE] [Expr.Constant (Const.int _) _ _] _) _ _) _ _ _); k_dflt (refine' test_ge ?F ?v ?_ ?a ?b ?d; (case F => k_asm); (case a => rfl); (case b => rfl); (case d => decide); (case v => rfl)); (try dsimp only))
  k_with "Thn" => first | (refine hK9 _ _ ?_; (try clear hK9); (try dsimp only)) | (refine hK9 _ ?_; (try clear hK9); (try dsimp only))
  k_with "Rtn" => (refine hR9 _ _ ?_)
  k_with "Trn" => (refine hN9 _ _ ?_; (try dsimp only))
  k_with "ThB" => refine thb_ite ?_
  k_with "ThB true" => (refine hT9 _ ?_; (try clear hT9 hF9); (try dsimp only [List.cons_append, List.nil_append, List.append_nil]))
  k_with "ThB false" => (refine hF9 _ ?_; (try clear hT9 hF9); (try dsimp only [List.cons_append, List.nil_append, List.append_nil]))
  k_with "execs cons If" => (refine flat_if ?_; intro K9 hT9 hF9)
  k_with "execs cons If" => k_dflt ((first | (refine' if_pb (lit := false) (n := 6) ?F ?c ?_ ?_; (case F => k_asm); (case c => exact rfl)) | (refine' if_p (lit := false) (n := 6) ?F ?c ?_ ?_; (case F => k_asm); (case c => exact rfl))); (all_goals (intro k9 hb9; first | (exfalso; omega) | dsimp only [List.cons_append, List.nil_append, List.append_nil] | skip)))
  k_with "execs cons If" => k_dflt ((first | (refine' if_T (lit := true) (n := 6) ?F ?c ?_; (case F => k_asm); (case c => exact rfl)) | (refine' if_F (lit := true) (n := 6) ?F ?c ?_; (case F => k_asm); (case c => exact rfl))); intro k9; (try dsimp only [List.cons_append, List.nil_append, List.append_nil]))
  k_with "execs cons If" => k_dflt (refine' if_p (lit := true) (n := 6) ?F ?c ?_ ?_; (case F => k_asm); (case c => exact rfl); (all_goals (intro k9 hb9; first | (exfalso; omega) | dsimp only [List.cons_append, List.nil_append, List.append_nil] | skip)))
  k_with "execs cons Assign" => ((fail_if_success (with_reducible show wpAny _ _ (execs (Stmt.Assign _ (Expr.ListComp _ _ _ _) _ :: _) _) _ _ _)); refine' flat_asg ?_ ?s; (case s => exact rfl); intro K9 hK9)
  k_with "execs cons Assign" => k_dflt (refine' asg_ev (n := 6) ?F ?N ?L ?x ?s ?e ?_; (case F => k_asm); (case N => k_asm); (case L => exact rfl); (case x => exact rfl); (case s => exact rfl); (case e => exact rfl); intro t9 k9 h' m9 F' N'; (try dsimp only); (try k_sweep))
  k_with "storeName" => k_dflt (refine' store_ev ?F ?N ?L ?x ?_; (case F => k_asm); (case N => k_asm); (case L => exact rfl); (case x => exact rfl); intro h' k9 m9 F' N'; (try dsimp only); (try k_sweep))
  k_with "execs cons Return" => (refine flat_ret ?_; intro K9 hK9)
  k_with "execs cons Return" => k_dflt (refine' ret_ev (n := 6) ?F ?e ?_; (case F => k_asm); (case e => exact rfl); intro t9 k9; (try dsimp only))
  k_with "execs cons Expr" => (refine' flat_expr ?_ ?i ?s; (case i => exact rfl); (case s => exact rfl); intro K9 hK9)
  k_with "execs cons Raise" => refine flat_raise ?_
  k_with "execs cons Continue" => refine flat_cont ?_
  k_with "spliced" => plain_pass; k_dflt (refine' args_ev (n := 6) ?F ?e ?_; (case F => k_asm); (case e => exact rfl); intro t9 k9; (try dsimp only [vals, List.cons_append, List.nil_append]))
  k_with "eval Call Name" => plain_pass; k_dflt (refine' callN_ev (n := 6) ?F ?X ?T ?f ?v ?w ?g ?e ?_ ?a ?b ?d; (case F => k_asm); (case e => exact rfl); (case b => exact rfl); (case X => k_asm); (case T => k_asm); (case a => exact rfl); (case f => k_is); (case v => boot_fast); (case w => exact rfl); (case g => decide); (case d => decide); intro t9 k9; (try dsimp only [vals]))
  k_with "eval Call Name" => plain_pass; k_dflt (refine' call_ev (n := 6) ?F ?X ?T ?f ?k ?e ?_ ?a ?b ?d; (case F => k_asm); (case e => exact rfl); (case b => exact rfl); (case X => k_asm); (case T => k_asm); (case a => exact rfl); (case f => k_is); (case k => k_is); (case d => decide); intro t9 k9; (try dsimp only [vals]))
  k_with "call type:type" => ((with_reducible show wpAny _ _ (call _ [Value.bytes _ _]) _ _ _); refine call_type_of (Tx := "bytes") rfl (by decide +kernel) ?_)
  k_steps

  all_goals exact hret 0 _ _ (by k_asm) (by k_asm)
end
end

section
/-- names with their values, laid over a map -/
def ov : List Str → List Value → (Str → Option Value) → Str → Option Value
  | k :: ks, v :: vs, u => fun z => if z = k then some v else ov ks vs u z
  | _, _, u => u
theorem ov_eq : ∀ {ks : List Str} {vs : List Value} {u : Str → Option Value}, ks.map u = vs.map some → ov ks vs u = u
  | [], _, _, _ => by simp [ov]
  | _ :: _, [], _, _ => by simp [ov]
  | k :: ks, v :: vs, u, h => by
    simp only [List.map_cons, List.cons.injEq] at h
    funext z
    show (if z = k then some v else ov ks vs u z) = u z
    rw [ov_eq h.2]
    by_cases e : z = k
    · rw [if_pos e, e, h.1]
    · rw [if_neg e]
def iv (q : Int × Tok) : Value := .int q.1 q.2
theorem len1 {α : Type} {l : List α} (h : l.length = 1) : ∃ a, l = [a] := by
  match l, h with
  | [a], _ => exact ⟨a, rfl⟩
theorem len2 {α : Type} {l : List α} (h : l.length = 2) : ∃ a b, l = [a, b] := by
  match l, h with
  | [a, b], _ => exact ⟨a, b, rfl⟩
theorem len3 {α : Type} {l : List α} (h : l.length = 3) : ∃ a b c, l = [a, b, c] := by
  match l, h with
  | [a, b, c], _ => exact ⟨a, b, c, rfl⟩
theorem len4 {α : Type} {l : List α} (h : l.length = 4) : ∃ a b c d, l = [a, b, c, d] := by
  match l, h with
  | [a, b, c, d], _ => exact ⟨a, b, c, d, rfl⟩
inductive OutJ (lo : Addr) (news : List (Addr × Obj)) (ys ks : List Str) (kv : List Value) (P : List Int → List Int → List Int → Prop) (pre : List Int) (m : Str → Option Value) : List (Addr × Obj) → Prop
  | mk (as : List (Int × Tok)) (out : List Int) (vs : List Value) (nn : Nat) : IntsAre vs out → ys.map m = (as.map iv).map some → ks.map m = kv.map some → P pre out (as.map (·.1)) → OutJ lo news ys ks kv P pre m ((lo, listOf vs.toArray nn) :: news)
theorem as_len {m : Str → Option Value} {ys : List Str} {as : List (Int × Tok)} (h : ys.map m = (as.map iv).map some) : as.length = ys.length := by simpa using (congrArg List.length h).symm
theorem take_at {ns : List Int} {i : Nat} {n : Int} (h : ns[i]? = some n) : ns.take (i + 1) = ns.take i ++ [n] := by rw [List.take_add_one, h, Option.toList_some]
theorem take_drop {ns : List Int} {i : Nat} {n : Int} (h : ns[i]? = some n) : ns = ns.take i ++ n :: ns.drop (i + 1) := by
  have ht := List.take_append_drop (i + 1) ns
  rw [take_at h, List.append_assoc] at ht
  exact ht.symm
section
variable {prog : Program} {w : World} {A : Around} {E : Value → Shared → Prop} {s : Shared} {env : Env} {h₀ : Heap} {x : Str} {body : List Stmt} {Q : Flow → Shared → Prop}
theorem ov_both {ys ks : List Str} {as kv : List Value} {u : Str → Option Value} (hy : ys.map u = as.map some) (hk : ks.map u = kv.map some) : ov ys as (ov ks kv u) = u := by
  rw [ov_eq hk, ov_eq hy]
theorem bytesJ {b : Array UInt8} {tb : Tok} {m₀ : Str → Option Value} {news : List (Addr × Obj)} (J : List Int → (Str → Option Value) → List (Addr × Obj) → Prop)
    (hh : A.handled = none) (F : Fr h₀ env.locals s.heap m₀) (N : News h₀ env.locals s.heap news) (hj : J [] m₀ news)
    (turn : ∀ (pre post : List Int) (n : Int) (t : Tok) (m₁ : Str → Option Value) (nx : List (Addr × Obj)) (h : Heap) (tk : Nat) (own : List (Addr × Obj)), KBw.bInts b = pre ++ n :: post → 0 ≤ n → n < 256 → OwnOff own (news.map (·.1)) → J pre m₁ nx →
      Fr h₀ env.locals h (fun y => if y = x then some (.int n t) else m₁ y) → News h₀ env.locals h (nx ++ own) →
      wpAny (model prog w) A (execs body env) (InvPostN h₀ env.locals (J (pre ++ [n])) own (news.map (·.1)) { s with heap := h, toks := tk } Q) E { s with heap := h, toks := tk })
    (done : ∀ (m₁ : Str → Option Value) (nx : List (Addr × Obj)) (h : Heap) (tk : Nat), J (KBw.bInts b) m₁ nx → Fr h₀ env.locals h m₁ → News h₀ env.locals h nx → Q .next { s with heap := h, toks := tk }) :
    wpAny (model prog w) A (pyIter (.bytes b tb)) (fun it s₂ => LoopAtV prog w A h₀ env x body Q E it s₂) E s := by
  refine KBw.pyIter_bytes ?_
  refine loop_invN (fun i => J ((KBw.bInts b).take i)) (KBw.walks (prog := prog) (w := w) hh s.heap.objs.size b tb) ?_ ?_ ?_ ?_ ⟨_, Heap.get?_push_size _ rfl, rfl, rfl⟩ (F.push _) (fun p hp => ⟨Heap.get?_push_of_some _ (N p hp).1, (N p hp).2⟩) hj ?_ ?_
  · intro hm
    exact absurd F.ns.lt ((List.mem_singleton.mp hm) ▸ Nat.lt_irrefl _)
  · intro b' hb
    rw [List.mem_singleton.mp hb]
    exact next_is_new F
  · intro p hp hI
    exact absurd (Heap.lt_size (N p hp).1) ((List.mem_singleton.mp hI) ▸ Nat.lt_irrefl _)
  · intro p hp hI
    exact absurd (Heap.lt_size (N p hp).1) ((List.mem_singleton.mp hI) ▸ Nat.lt_irrefl _)
  · rintro i v m₁ nx h tk own hi ⟨n, u, hn, rfl⟩ _ hoff hJ F₁ N₁
    have hn' := KBw.ints_get hn
    have hb := KBw.ints_in (List.mem_of_getElem? hn')
    rw [take_at hn']
    exact turn _ _ (n.toNat : Int) u m₁ nx h tk own (take_drop hn') hb.1 hb.2 hoff hJ F₁ N₁
  · rintro m₁ nx h tk hJ F₁ N₁
    have h8 : b.size = (KBw.bInts b).length := (KBw.ints_length b).symm
    rw [h8, List.take_length] at hJ
    exact done m₁ nx h tk hJ F₁ N₁
theorem listJ {l : Addr} {ws : List Value} {ns : List Int} {nl : Nat} {m₀ : Str → Option Value} {news : List (Addr × Obj)} (J : List Int → (Str → Option Value) → List (Addr × Obj) → Prop)
    (hh : A.handled = none) (hl : ∀ pre m nx, J pre m nx → (l, listOf ws.toArray nl) ∈ nx) (hw : IntsAre ws ns) (F : Fr h₀ env.locals s.heap m₀) (N : News h₀ env.locals s.heap news) (hj : J [] m₀ news)
    (turn : ∀ (pre post : List Int) (n : Int) (t : Tok) (m₁ : Str → Option Value) (nx : List (Addr × Obj)) (h : Heap) (tk : Nat) (own : List (Addr × Obj)), ns = pre ++ n :: post → OwnOff own (news.map (·.1)) → J pre m₁ nx →
      Fr h₀ env.locals h (fun y => if y = x then some (.int n t) else m₁ y) → News h₀ env.locals h (nx ++ own) →
      wpAny (model prog w) A (execs body env) (InvPostN h₀ env.locals (J (pre ++ [n])) own (news.map (·.1)) { s with heap := h, toks := tk } Q) E { s with heap := h, toks := tk })
    (done : ∀ (m₁ : Str → Option Value) (nx : List (Addr × Obj)) (h : Heap) (tk : Nat), J ns m₁ nx → Fr h₀ env.locals h m₁ → News h₀ env.locals h nx → Q .next { s with heap := h, toks := tk }) :
    wpAny (model prog w) A (pyIter (.ref l)) (fun it s₂ => LoopAtV prog w A h₀ env x body Q E it s₂) E s := by
  refine iter_invNL (fun i => J (ns.take i)) hh (hl _ _ _ hj) hw F N hj ?_ ?_
  · rintro i n t m₁ nx h tk own hn _ hoff _ hJ F₁ N₁
    rw [take_at hn]
    have up : ∀ s₂, InvEndN h₀ env.locals (J (ns.take i ++ [n])) own (news.map (·.1)) { s with heap := h, toks := tk } s₂ →
        InvEndN h₀ env.locals (fun m' nx' => (l, listOf ws.toArray nl) ∈ nx' ∧ J (ns.take i ++ [n]) m' nx') own (news.map (·.1)) { s with heap := h, toks := tk } s₂ := by
      rintro s₂ ⟨h', tk', m', news', nx', e', F', N', hn', ho', ha, hS⟩
      exact ⟨h', tk', m', news', nx', e', F', N', hn', ho', ha, hl _ _ _ hS, hS⟩
    refine wpAny_mono (turn _ _ n t m₁ nx h tk own (take_drop hn) hoff hJ F₁ N₁) (fun f s₂ q => ?_) fun _ _ x => x
    cases f with
    | ret v => exact q
    | brk => exact q
    | next => exact up s₂ q
    | cont => exact up s₂ q
  · rintro m₁ nx h tk _ hJ F₁ N₁
    rw [List.take_length] at hJ
    exact done m₁ nx h tk hJ F₁ N₁
theorem bytesFor {b : Array UInt8} {tb : Tok} {m₀ : Str → Option Value} {lo : Addr} {arr₀ : Array Value} {n₀ : Nat} {news : List (Addr × Obj)} {kv : List Value} {as₀ : List (Int × Tok)} {out₀ : List Int}
    (ys ks : List Str) (P : List Int → List Int → List Int → Prop)
    (hh : A.handled = none) (F : Fr h₀ env.locals s.heap m₀) (N : News h₀ env.locals s.heap ((lo, listOf arr₀ n₀) :: news)) (hlo : ∀ p ∈ news, p.1 < lo)
    (hi : IntsAre arr₀.toList out₀) (hy : ys.map m₀ = (as₀.map iv).map some) (hk : ks.map m₀ = kv.map some) (hp : P [] out₀ (as₀.map (·.1)))
    (turn : ∀ (pre post : List Int) (n : Int) (t : Tok) (u : Str → Option Value) (as : List (Int × Tok)) (out : List Int) (vs : List Value) (nn : Nat) (h : Heap) (tk : Nat) (own : List (Addr × Obj)), KBw.bInts b = pre ++ n :: post → 0 ≤ n → n < 256 → as.length = ys.length → (∀ p ∈ news ++ own, p.1 ≠ lo) → IntsAre vs out → P pre out (as.map (·.1)) →
      Fr h₀ env.locals h (fun y => if y = x then some (.int n t) else ov ys (as.map iv) (ov ks kv u) y) → News h₀ env.locals h ((lo, listOf vs.toArray nn) :: (news ++ own)) →
      wpAny (model prog w) A (execs body env) (InvPostN h₀ env.locals (OutJ lo news ys ks kv P (pre ++ [n])) own (lo :: news.map (·.1)) { s with heap := h, toks := tk } Q) E { s with heap := h, toks := tk })
    (done : ∀ (u : Str → Option Value) (as : List (Int × Tok)) (out : List Int) (vs : List Value) (nn : Nat) (h : Heap) (tk : Nat), as.length = ys.length → IntsAre vs out → P (KBw.bInts b) out (as.map (·.1)) →
      Fr h₀ env.locals h (ov ys (as.map iv) (ov ks kv u)) → News h₀ env.locals h ((lo, listOf vs.toArray nn) :: news) → Q .next { s with heap := h, toks := tk }) :
    wpAny (model prog w) A (pyIter (.bytes b tb)) (fun it s₂ => LoopAtV prog w A h₀ env x body Q E it s₂) E s := by
  refine bytesJ (OutJ lo news ys ks kv P) hh F N (.mk as₀ out₀ arr₀.toList n₀ hi hy hk hp) ?_ ?_
  · rintro pre post n t m₁ nx h tk own e h0 h1 hoff ⟨as, out, vs, nn, hI, hy', hk', hp'⟩ F₁ N₁
    refine turn pre post n t m₁ as out vs nn h tk own e h0 h1 (as_len hy') (fun p hp => ?_) hI hp' (by rw [ov_both hy' hk']; exact F₁) N₁
    rcases List.mem_append.mp hp with h1 | h1
    · exact Nat.ne_of_lt (hlo p h1)
    · exact hoff p h1 lo (.head _)
  · rintro m₁ nx h tk ⟨as, out, vs, nn, hI, hy', hk', hp'⟩ F₁ N₁
    exact done m₁ as out vs nn h tk (as_len hy') hI hp' (by rw [ov_both hy' hk']; exact F₁) N₁
theorem outEnd {lo L : Addr} {news own : List (Addr × Obj)} {ys ks : List Str} {kv : List Value} {P : List Int → List Int → List Int → Prop} {pre : List Int} {m' : Str → Option Value} {arr : Array Value} {nn : Nat} {s₁ : Shared} {h' : Heap} {tk : Nat}
    (as : List (Int × Tok)) {out : List Int} (F : Fr h₀ L h' m') (N : News h₀ L h' ((lo, listOf arr nn) :: (news ++ own))) (hi : IntsAre arr.toList out) (hy : ys.map m' = (as.map iv).map some) (hk : ks.map m' = kv.map some) (hp : P pre out (as.map (·.1))) :
    InvEndN h₀ L (OutJ lo news ys ks kv P pre) own (lo :: news.map (·.1)) s₁ { s₁ with heap := h', toks := tk } :=
  InvEndN.intro F N (nx := (lo, listOf arr nn) :: news) (.mk as out arr.toList nn hi hy hk hp) rfl (fun p hp => by
    rcases List.mem_cons.mp hp with h | h
    · exact h ▸ .head _
    · exact .tail _ (List.mem_append_left _ h)) fun p hp => .tail _ (List.mem_append_right _ hp)
inductive WhJ (lo : Addr) (news : List (Addr × Obj)) (ys ks : List Str) (kv : List Value) (P : List Int → List Int → Prop) (μ : List Int → Nat) : Nat → (Str → Option Value) → List (Addr × Obj) → Prop
  | mk (m : Str → Option Value) (as : List (Int × Tok)) (out : List Int) (vs : List Value) (nn : Nat) : IntsAre vs out → ys.map m = (as.map iv).map some → ks.map m = kv.map some → P out (as.map (·.1)) → WhJ lo news ys ks kv P μ (μ (as.map (·.1))) m ((lo, listOf vs.toArray nn) :: news)
theorem whileOut {L lo : Addr} {test : Expr} {pos : Pos} {arr₀ : Array Value} {n₀ : Nat} {m₀ : Str → Option Value} {news : List (Addr × Obj)} {kv : List Value} {as₀ : List (Int × Tok)} {out₀ : List Int}
    (ys ks : List Str) (P : List Int → List Int → Prop) (μ : List Int → Nat)
    (F : Fr h₀ L s.heap m₀) (N : News h₀ L s.heap ((lo, listOf arr₀ n₀) :: news)) (hi : IntsAre arr₀.toList out₀) (hy : ys.map m₀ = (as₀.map iv).map some) (hk : ks.map m₀ = kv.map some) (hp : P out₀ (as₀.map (·.1)))
    (turn : ∀ (u : Str → Option Value) (as : List (Int × Tok)) (out : List Int) (vs : List Value) (nn : Nat) (h : Heap) (tk : Nat), as.length = ys.length → IntsAre vs out → P out (as.map (·.1)) →
      Fr h₀ L h (ov ys (as.map iv) (ov ks kv u)) → News h₀ L h ((lo, listOf vs.toArray nn) :: news) →
      wpAny (model prog w) A (isTrue test env (eval test env)) (fun b s₂ => if b = true then wpAny (model prog w) A (execs body env) (WhileStep2 h₀ L s (WhJ lo news ys ks kv P μ) Q (μ (as.map (·.1)))) E s₂ else Q .next s₂) E { s with heap := h, toks := tk })
    (hE : PassesOwn (model prog w) A env E) :
    wpAny (model prog w) A (exec (.While test body [] pos) env) Q E s := by
  refine While_inv2 (WhJ lo news ys ks kv P μ) F N (.mk m₀ as₀ out₀ arr₀.toList n₀ hi hy hk hp) ?_ hE
  rintro n m₁ nx h tk F₁ N₁ ⟨_, as, out, vs, nn, hI, hy', hk', hp'⟩
  exact turn m₁ as out vs nn h tk (as_len hy') hI hp' (by rw [ov_both hy' hk']; exact F₁) N₁
theorem ints_push {arr : Array Value} {out : List Int} {a : Int} {t : Tok} (h : IntsAre arr.toList out) : IntsAre (arr.push (.int a t)).toList (out ++ [a]) := by
  rw [Array.toList_push]
  exact IntsAre.append h (.cons _ _ .nil)
theorem bytes_of {L D : Addr} {m : Str → Option Value} {news : List (Addr × Obj)} {arr : Array Value} {nn : Nat} {ns : List Int} {Q : Value → Shared → Prop} (F : Fr h₀ L s.heap m) (N : News h₀ L s.heap news) (hm : (D, listOf arr nn) ∈ news) (hh : A.handled = none)
    (hi : IntsAre arr.toList ns) (hr : ∀ v ∈ ns, 0 ≤ v ∧ v < 256) (hn : ns.length ≤ 16777216)
    (h : ∀ h' t' k, Fr h₀ L h' m → News h₀ L h' news → Q (.bytes (byteArr ns) t') { s with heap := h', toks := k }) : wpAny (model prog w) A (call (.type "bytes") [.ref D]) Q E s :=
  KBa.make_K F N hh (vs := arr.toList) ⟨_, (N _ hm).1, rfl, nn, rfl⟩ hi hr hn fun h' t' k F' N' _ => h h' t' k F' N'
theorem append_off {D : Addr} {L : Addr} {m : Str → Option Value} {its : Array Value} {n : Nat} {v : Value} {rest : List (Addr × Obj)} {Q : Value → Shared → Prop} (F : Fr h₀ L s.heap m) (N : News h₀ L s.heap ((D, listOf its n) :: rest)) (hoff : ∀ p ∈ rest, p.1 ≠ D)
    (h : ∀ h', Fr h₀ L h' m → News h₀ L h' ((D, listOf (its.push v) (n + 1)) :: rest) → Q .none { s with heap := h' }) (hsz : its.size ≤ sizeLine) : wpAny (model prog w) A (call (.builtin "list.append") [.ref D, v]) Q E s :=
  append_K F N (Upd.head hoff) h hsz
end
end

section
open Builtin
theorem slot_translate : Slot "bytes" "translate" "bytes.translate" :=
  .of (owner := "bytes") (n := "translate") (by rw [typeLookup_type, builtinLookup_eq_fast]; kernel_rfl) (by decide +kernel) (by decide +kernel) (by decide +kernel)
    (by first | exact .inl (by decide +kernel) | exact .inr (by decide +kernel)) (by rw [isSubtype_type]; kernel_rfl)
theorem type_translate : typeOf (.builtin "bytes.translate") = pure (.type "method_descriptor") := by show builtinType _ = _; rw [builtinType_eq_fast]; kernel_rfl
theorem entry_translate : entryFor table "bytes.translate" = some Builtin.«bytes.translate» := entryFor_of_tree (by kernel_rfl)
theorem args_translate (a b : Value) : argsOk "bytes.translate" ⟨[a, b], []⟩ := by unfold argsOk; kernel_rfl
theorem slot_upper : Slot "bytes" "upper" "bytes.upper" :=
  .of (owner := "bytes") (n := "upper") (by rw [typeLookup_type, builtinLookup_eq_fast]; kernel_rfl) (by decide +kernel) (by decide +kernel) (by decide +kernel)
    (by first | exact .inl (by decide +kernel) | exact .inr (by decide +kernel)) (by rw [isSubtype_type]; kernel_rfl)
theorem type_upper : typeOf (.builtin "bytes.upper") = pure (.type "method_descriptor") := by show builtinType _ = _; rw [builtinType_eq_fast]; kernel_rfl
theorem entry_upper : entryFor table "bytes.upper" = some Builtin.«bytes.upper» := entryFor_of_tree (by kernel_rfl)
theorem args_upper (a : Value) : argsOk "bytes.upper" ⟨[a], []⟩ := by unfold argsOk; kernel_rfl
/-- what a table of 256 makes of a row -/
def trans (T b : Array UInt8) : Array UInt8 := b.map fun c => T.getD c.toNat c
theorem mapped_all (T b : Array UInt8) : ((b.filter (!(#[] : Array UInt8).contains ·)).map fun c => T.getD c.toNat c) = trans T b := by
  unfold trans
  congr 1
  rw [Array.filter_eq_self]
  simp
section
variable {prog : Program} {w : World} {A : Around} {E : Value → Shared → Prop} {s : Shared} {b T : Array UInt8} {t u : Tok}
theorem meets_translate (hT : T.size = 256) : Meets («bytes.translate» ⟨[.bytes b t, .bytes T u], []⟩) (fun _ R s => b.size ≤ sizeLine ∧ ∀ t' k, R (.ok (.ret (.bytes (trans T b) t'))) { s with toks := k }) := by
  refine .of_wp fun prog w A R s hS => ?_
  obtain ⟨hsz, h⟩ := hS
  show wpAny _ _ (Bytes.bytesLike _ (.bytes T u) >>= fun r => _) _ _ s
  refine wpAny_bind (wpAny_of_eq KBd.like_eq ?_)
  refine KFB.if_not (by rw [hT]; rfl) ?_
  show wpAny _ _ (if (((b.filter (!(#[] : Array UInt8).contains ·)).map fun c => T.getD c.toNat c) == b) = true then (rule _ >>= fun _ => (Bytes.Kind.bytes.same (.bytes b t) >>= fun v => ret v)) else (mkBytes ((b.filter (!(#[] : Array UInt8).contains ·)).map fun c => T.getD c.toNat c) >>= fun v => ret v)) _ _ s
  rw [mapped_all]
  by_cases e : (trans T b == b) = true
  · rw [if_pos e]
    refine wpAny_bind (wpAny_rule ?_)
    show wpAny _ _ (ret (.bytes b t)) _ _ s
    refine wpAny_pure ⟨_, rfl, ?_⟩
    have h' := h t s.toks
    rw [eq_of_beq e] at h'
    exact h'
  · rw [if_neg e]
    exact wpAny_bind (wpAny_mkBytes (wpAny_pure ⟨_, rfl, h _ _⟩) (by unfold trans; rw [Array.size_map]; exact hsz))
theorem translate {Q : Value → Shared → Prop} (hT : T.size = 256) (hsz : b.size ≤ 16777216) (h : ∀ t' k, Q (.bytes (trans T b) t') { s with toks := k }) :
    wpAny (model prog w) A (call (.builtin "bytes.translate") [.bytes b t, .bytes T u]) Q E s :=
  call_meets slot_translate (typeIs_bytes _ _ _) entry_translate (args_translate _ _) (meets_translate hT) ⟨by rw [sizeLine_eq]; exact hsz, h⟩
theorem method_translate {M : Model} {pl : Sem Bool} {Q : Value × List Value → Shared → Prop} (h : Q (.builtin "bytes.translate", [.bytes b t]) s) : wpAny M A (getMethod (.bytes b t) "translate" pl) Q E s := by
  with_reducible exact KBd.method_of (.bytes b t) (typeIs_bytes _ _ _) slot_translate type_translate KBd.noRef h
/-- capital letters -/
def upped (b : Array UInt8) : Array UInt8 := (b.toList.map Bytes.toUpper).toArray
theorem meets_upper : Meets («bytes.upper» ⟨[.bytes b t], []⟩) (fun _ R s => b.size ≤ sizeLine ∧ ∀ t' k, R (.ok (.ret (.bytes (upped b) t'))) { s with toks := k }) := by
  refine .of_wp fun prog w A R s hS => ?_
  obtain ⟨hsz, h⟩ := hS
  show wpAny _ _ (mkBytes (upped b) >>= fun v => ret v) _ _ s
  exact wpAny_bind (wpAny_mkBytes (wpAny_pure ⟨_, rfl, h _ _⟩) (by unfold upped; simpa using hsz))
theorem upper {Q : Value → Shared → Prop} (hsz : b.size ≤ 16777216) (h : ∀ t' k, Q (.bytes (upped b) t') { s with toks := k }) :
    wpAny (model prog w) A (call (.builtin "bytes.upper") [.bytes b t]) Q E s :=
  call_meets slot_upper (typeIs_bytes _ _ _) entry_upper (args_upper _) meets_upper ⟨by rw [sizeLine_eq]; exact hsz, h⟩
theorem method_upper {M : Model} {pl : Sem Bool} {Q : Value × List Value → Shared → Prop} (h : Q (.builtin "bytes.upper", [.bytes b t]) s) : wpAny M A (getMethod (.bytes b t) "upper" pl) Q E s := by
  with_reducible exact KBd.method_of (.bytes b t) (typeIs_bytes _ _ _) slot_upper type_upper KBd.noRef h
/-- the table of maketrans -/
def mkT (f g : Array UInt8) : Array UInt8 := (f.toList.zip g.toList).foldl (fun t (p : UInt8 × UInt8) => t.setIfInBounds p.1.toNat p.2) ((Array.range 256).map (·.toUInt8))
/-- the table of two pairs as a list (the kernel reads a list fast, an array's map slowly) -/
theorem range_arr (n : Nat) : (Array.range n).map (·.toUInt8) = ((List.range n).map (·.toUInt8)).toArray := by
  apply Array.ext'
  simp
theorem mk_two (x y u v : UInt8) : mkT #[x, y] #[u, v] = ((((List.range 256).map (·.toUInt8)).set x.toNat u).set y.toNat v).toArray := by
  unfold mkT
  rw [range_arr]
  simp
theorem check_mk (a b : Value) : checkBuiltinCall "bytes.maketrans" ⟨[a, b], []⟩ = pure () := by kernel_rfl
theorem plain_mk : plainId "bytes.maketrans" = true := by decide +kernel
theorem entry_mk : entryFor table "bytes.maketrans" = some Builtin.«bytes.maketrans» := entryFor_of_tree (by kernel_rfl)
theorem args_mk (a b : Value) : argsOk "bytes.maketrans" ⟨[a, b], []⟩ := by unfold argsOk; kernel_rfl
theorem mkT_size (f g : Array UInt8) : (mkT f g).size = 256 := by
  unfold mkT
  have : ∀ (l : List (UInt8 × UInt8)) (t : Array UInt8), (l.foldl (fun t (p : UInt8 × UInt8) => t.setIfInBounds p.1.toNat p.2) t).size = t.size := by
    intro l
    induction l with
    | nil => intro t; rfl
    | cons p l ih => intro t; rw [List.foldl_cons, ih, Array.size_setIfInBounds]
  rw [this]
  simp
theorem meets_mk {f g : Array UInt8} (hs : f.size = g.size) : Meets («bytes.maketrans» ⟨[.bytes f t, .bytes g u], []⟩) (fun _ R s => ∀ t' k, R (.ok (.ret (.bytes (mkT f g) t'))) { s with toks := k }) := by
  refine .of_wp fun prog w A R s h => ?_
  show wpAny _ _ (Bytes.bytesLike _ (.bytes f t) >>= fun r => _) _ _ s
  refine wpAny_bind (wpAny_of_eq KBd.like_eq ?_)
  refine wpAny_bind (wpAny_of_eq KBd.like_eq ?_)
  refine KFB.if_not (by rw [hs]; simp) ?_
  show wpAny _ _ (mkBytes (mkT f g) >>= fun v => ret v) _ _ s
  exact wpAny_bind (wpAny_mkBytes (wpAny_pure ⟨_, rfl, h _ _⟩) (by rw [mkT_size, sizeLine_eq]; decide))
theorem maketrans {f g : Array UInt8} {Q : Value → Shared → Prop} (hs : f.size = g.size) (h : ∀ t' k, Q (.bytes (mkT f g) t') { s with toks := k }) :
    wpAny (model prog w) A (call (.builtin "bytes.maketrans") [.bytes f t, .bytes g u]) Q E s :=
  wpAny_call (codeAny_call_builtin plain_mk entry_mk (wpAny_of_eq (check_mk _ _) (meets_mk hs prog w A (wants Q E) s h)))
theorem method_hex {M : Model} {pl : Sem Bool} {Q : Value × List Value → Shared → Prop} (h : Q (.builtin "bytes.hex", [.bytes b t]) s) : wpAny M A (getMethod (.bytes b t) "hex" pl) Q E s := by
  with_reducible exact KBd.method_of (.bytes b t) (typeIs_bytes _ _ _) FB.slot_bytes_hex FB.type_bytes_hex KBd.noRef h
end
end

section
open Builtin Builtin._codecs
theorem forIn_nought {β : Type} (f : Nat → β → Sem (ForInStep β)) (b : β) : forIn [0:0] b f = pure b := by
  rw [Std.Legacy.Range.forIn_eq_forIn_range']
  rfl
theorem forIn_two {β : Type} (f : Nat → β → Sem (ForInStep β)) (b b' : β) (h0 : f 0 b = pure (.yield b')) (h1 : ∀ i, f i b' = pure (.done b')) (n : Nat) : forIn [0:n + 1] b f = pure b' := by
  rw [Std.Legacy.Range.forIn_eq_forIn_range']
  simp only [Std.Legacy.Range.size, Nat.sub_zero, Nat.add_sub_cancel, Nat.div_one]
  rw [show List.range' 0 (n + 1) 1 = 0 :: List.range' 1 n 1 from rfl]
  rw [List.forIn_cons, h0]
  show forIn (List.range' 1 n 1) b' f = pure b'
  cases n with
  | zero => rfl
  | succ m =>
    rw [show List.range' 1 (m + 1) 1 = 1 :: List.range' 2 m 1 from rfl, List.forIn_cons, h1]
    rfl
theorem fold_bytes (l : List Nat) : ∀ a : Array UInt8, l.foldl (fun acc y => acc ++ (asciiCodec.bytesOf y).toArray) a = a ++ (l.map (·.toUInt8)).toArray := by
  induction l with
  | nil => intro a; simp
  | cons c l ih =>
    intro a
    rw [List.foldl_cons, ih]
    show a ++ #[c.toUInt8] ++ _ = _
    rw [Array.append_assoc]
    simp
theorem ascii_narrow (id : String) (self : Value) (x : Str) (h : ∀ c ∈ x.cps, c < 128) (hsz : x.length ≤ 16777216) : encodeNarrow id asciiCodec none self x = pure (x.cps.map (·.toUInt8)) := by
  unfold encodeNarrow
  cases hn : x.length with
  | zero =>
    have hz : x.cps = #[] := Array.eq_empty_of_size_eq_zero hn
    rw [hz]
    dsimp only
    rw [forIn_nought, Array.map_empty]
    rfl
  | succ n =>
    have hs : x.cps.size = n + 1 := hn
    have hbad : ∀ c ∈ x.cps, asciiCodec.bad c = false := fun c hc => decide_eq_false (by have := h c hc; omega)
    dsimp only
    rw [forIn_two (b' := (x.length, x.cps.map (·.toUInt8), ({} : Faults)))]
    · rfl
    · dsimp only
      rw [if_neg (show ¬ ((#[] : Array UInt8).size > sizeLine) from Nat.not_lt.mpr (Nat.zero_le _))]
      have h0 : x.cps[0]? = some (x.cps[0]'(by omega)) := Array.getElem?_eq_getElem (by omega)
      rw [h0]
      dsimp only
      rw [hbad _ (Array.getElem_mem _)]
      have he : x.cps.extract 0 x.cps.size = x.cps := by simp
      have hf : Array.findIdx? asciiCodec.bad x.cps = none := Array.findIdx?_eq_none_iff.mpr fun c hc => hbad c hc
      simp only [Bool.not_false, if_true, he, hf, Option.getD_none, Nat.zero_add]
      rw [← Array.foldl_toList, fold_bytes]
      have e1 : (#[] : Array UInt8) ++ (x.cps.toList.map (·.toUInt8)).toArray = x.cps.map (·.toUInt8) := by
        apply Array.toList_inj.mp
        simp
      rw [e1]
      rfl
    · intro i
      dsimp only
      rw [if_neg (by rw [Array.size_map, sizeLine_eq]; show ¬ (x.cps.size > _); have : x.cps.size ≤ 16777216 := hsz; omega)]
      have h0 : x.cps[x.length]? = none := Array.getElem?_eq_none (Nat.le_refl _)
      rw [h0]
end
section
open Builtin Builtin._codecs
/-- the figures of bytes.hex -/
def hexCps (b : Array UInt8) : Array Nat := b.toList.zipIdx.foldl (fun (out : Array Nat) (p : UInt8 × Nat) => (out.push (Bytes.hexDigit (p.1.toNat / 16))).push (Bytes.hexDigit (p.1.toNat % 16))) #[]
theorem hexCps_aux (l : List (UInt8 × Nat)) : ∀ a : Array Nat, (l.foldl (fun (out : Array Nat) (p : UInt8 × Nat) => (out.push (Bytes.hexDigit (p.1.toNat / 16))).push (Bytes.hexDigit (p.1.toNat % 16))) a).toList = a.toList ++ (l.map (·.1)).flatMap fun c => [Bytes.hexDigit (c.toNat / 16), Bytes.hexDigit (c.toNat % 16)] := by
  induction l with
  | nil => intro a; simp
  | cons p l ih => intro a; rw [List.foldl_cons, ih]; simp
theorem hexCps_list (b : Array UInt8) : (hexCps b).toList = b.toList.flatMap fun c => [Bytes.hexDigit (c.toNat / 16), Bytes.hexDigit (c.toNat % 16)] := by
  unfold hexCps
  rw [hexCps_aux]
  simp
theorem hexCps_size (b : Array UInt8) : (hexCps b).size = 2 * b.size := by
  rw [← Array.length_toList, hexCps_list, ← Array.length_toList]
  induction b.toList with
  | nil => rfl
  | cons c l ih => rw [List.flatMap_cons, List.length_append, ih]; simp only [List.length_cons, List.length_nil]; omega
theorem hexDigit_lt {n : Nat} (h : n < 16) : Bytes.hexDigit n < 128 := by
  unfold Bytes.hexDigit
  split <;> omega
theorem hexCps_lt (b : Array UInt8) : ∀ c ∈ hexCps b, c < 128 := fun c hc => by
  rw [← Array.mem_toList_iff, hexCps_list, List.mem_flatMap] at hc
  obtain ⟨d, _, hd⟩ := hc
  have h1 : d.toNat < 256 := d.toNat_lt
  simp only [List.mem_cons, List.not_mem_nil, or_false] at hd
  rcases hd with rfl | rfl <;> exact hexDigit_lt (by omega)
section
variable {prog : Program} {w : World} {A : Around} {E : Value → Shared → Prop} {s : Shared} {b : Array UInt8} {x : Str} {t u : Tok}
theorem meets_hex : Meets («bytes.hex» ⟨[.bytes b t], []⟩) (fun _ R s => 2 * b.size ≤ sizeLine ∧ ∀ t' k, R (.ok (.ret (.str ⟨hexCps b⟩ t'))) { s with toks := k }) := by
  refine .of_wp fun prog w A R s hS => ?_
  obtain ⟨hsz, h⟩ := hS
  show wpAny _ _ (mkStr ⟨hexCps b⟩ >>= fun v => ret v) _ _ s
  exact wpAny_bind (wpAny_mkStr (wpAny_pure ⟨_, rfl, h _ _⟩) (by show (hexCps b).size ≤ _; rw [hexCps_size]; exact hsz))
theorem hex {Q : Value → Shared → Prop} (hsz : 2 * b.size ≤ 16777216) (h : ∀ t' k, Q (.str ⟨hexCps b⟩ t') { s with toks := k }) :
    wpAny (model prog w) A (call (.builtin "bytes.hex") [.bytes b t]) Q E s :=
  call_meets FB.slot_bytes_hex (typeIs_bytes _ _ _) FB.entry_bytes_hex (FB.args_bytes_hex_1 _) meets_hex ⟨by rw [sizeLine_eq]; exact hsz, h⟩
theorem encode_ascii_tree : «str.encode» ⟨[.str x t, .str (Str.ofString "ascii") u], []⟩ = ((encodeNarrow "str.encode" asciiCodec none (.str x t) x >>= fun a => mkBytes a) >>= fun v => ret v) := by
  kernel_rfl
theorem meets_encode (hx : ∀ c ∈ x.cps, c < 128) : Meets («str.encode» ⟨[.str x t, .str (Str.ofString "ascii") u], []⟩) (fun _ R s => x.length ≤ sizeLine ∧ ∀ t' k, R (.ok (.ret (.bytes (x.cps.map (·.toUInt8)) t'))) { s with toks := k }) := by
  refine .of_wp fun prog w A R s hS => ?_
  obtain ⟨hsz, h⟩ := hS
  rw [encode_ascii_tree, ascii_narrow _ _ _ hx (by rw [sizeLine_eq] at hsz; exact hsz)]
  exact wpAny_bind (wpAny_bind (wpAny_pure (wpAny_mkBytes (wpAny_pure ⟨_, rfl, h _ _⟩) (by rw [Array.size_map]; exact hsz))))
theorem encode {Q : Value → Shared → Prop} (hx : ∀ c ∈ x.cps, c < 128) (hsz : x.length ≤ 16777216) (h : ∀ t' k, Q (.bytes (x.cps.map (·.toUInt8)) t') { s with toks := k }) :
    wpAny (model prog w) A (call (.builtin "str.encode") [.str x t, .str (Str.ofString "ascii") u]) Q E s :=
  call_meets F.slot_str_encode (typeIs_str _ _ _) F.entry_str_encode (F.args_str_encode_2 _ _) (meets_encode hx) ⟨by rw [sizeLine_eq]; exact hsz, h⟩
theorem method_encode {M : Model} {pl : Sem Bool} {Q : Value × List Value → Shared → Prop} (h : Q (.builtin "str.encode", [.str x t]) s) : wpAny M A (getMethod (.str x t) "encode" pl) Q E s := by
  with_reducible exact getMethod_builtin (typeIs_str _ _ _) F.plainAttrs_str F.slot_str_encode F.type_str_encode (fun _ e => nomatch e) h
end
end

theorem reset10 : True := by
  w_top off
  k_with_none
  trivial

section
/-- b2a_base64's loop: out, leftbits, leftchar -/
def encStep (st : List Int × Int × Int) (n : Int) : List Int × Int × Int :=
  let c := (st.2.2 * 256 + n) % 65536
  if st.2.1 = 0 then (st.1 ++ [b64sgn (c / 4 % 64)], 2, c)
  else if st.2.1 = 2 then (st.1 ++ [b64sgn (c / 16 % 64)], 4, c)
  else (st.1 ++ [b64sgn (c / 64 % 64), b64sgn (c % 64)], 0, c)
def encFold (pre : List Int) : List Int × Int × Int := pre.foldl encStep ([], 0, 0)
def encTail (st : List Int × Int × Int) : List Int :=
  if st.2.1 = 2 then st.1 ++ [b64sgn (st.2.2 % 4 * 16), 61, 61] else if st.2.1 = 4 then st.1 ++ [b64sgn (st.2.2 % 16 * 4), 61] else st.1
def encOut (bs : List Int) : List Int := encTail (encFold bs)
def EncInv (pre out : List Int) (as : List Int) : Prop := ∃ bits chr, as = [bits, chr] ∧ (out, bits, chr) = encFold pre
theorem encFold_snoc (pre : List Int) (n : Int) : encFold (pre ++ [n]) = encStep (encFold pre) n := by simp [encFold]
theorem enc_facts (l : List Int) : ∀ st : List Int × Int × Int, (st.2.1 = 0 ∨ st.2.1 = 2 ∨ st.2.1 = 4) → 0 ≤ st.2.2 → st.2.2 < 65536 → (∀ v ∈ st.1, 0 ≤ v ∧ v < 256) →
    ((l.foldl encStep st).2.1 = 0 ∨ (l.foldl encStep st).2.1 = 2 ∨ (l.foldl encStep st).2.1 = 4) ∧ 0 ≤ (l.foldl encStep st).2.2 ∧ (l.foldl encStep st).2.2 < 65536 ∧ (∀ v ∈ (l.foldl encStep st).1, 0 ≤ v ∧ v < 256) ∧ (l.foldl encStep st).1.length ≤ st.1.length + 2 * l.length := by
  induction l with
  | nil => intro st h1 h2 h3 h4; exact ⟨h1, h2, h3, h4, by simp⟩
  | cons n l ih =>
    intro st h1 h2 h3 h4
    rw [List.foldl_cons]
    have hc : ∀ x : Int, 0 ≤ x % 64 ∧ x % 64 < 64 := fun x => ⟨by omega, by omega⟩
    have hs : ∀ x : Int, 0 ≤ b64sgn (x % 64) ∧ b64sgn (x % 64) < 256 := fun x => b64sgn_in (hc x).1 (hc x).2
    have key : ((encStep st n).2.1 = 0 ∨ (encStep st n).2.1 = 2 ∨ (encStep st n).2.1 = 4) ∧ 0 ≤ (encStep st n).2.2 ∧ (encStep st n).2.2 < 65536 ∧ (∀ v ∈ (encStep st n).1, 0 ≤ v ∧ v < 256) ∧ (encStep st n).1.length ≤ st.1.length + 2 := by
      unfold encStep
      dsimp only
      split
      · refine ⟨by simp, by simp only; omega, by simp only; omega, ?_, by simp⟩
        intro v hv
        simp only [List.mem_append, List.mem_singleton] at hv
        rcases hv with hv | hv
        · exact h4 v hv
        · exact hv ▸ hs _
      · split
        · refine ⟨by simp, by simp only; omega, by simp only; omega, ?_, by simp⟩
          intro v hv
          simp only [List.mem_append, List.mem_singleton] at hv
          rcases hv with hv | hv
          · exact h4 v hv
          · exact hv ▸ hs _
        · refine ⟨by simp, by simp only; omega, by simp only; omega, ?_, by simp⟩
          intro v hv
          simp only [List.mem_append, List.mem_cons, List.not_mem_nil, or_false] at hv
          rcases hv with hv | hv | hv
          · exact h4 v hv
          · exact hv ▸ hs _
          · exact hv ▸ hs _
    obtain ⟨r1, r2, r3, r4, r5⟩ := ih _ key.1 key.2.1 key.2.2.1 key.2.2.2.1
    exact ⟨r1, r2, r3, r4, by simp only [List.length_cons]; have := key.2.2.2.2; omega⟩
theorem EncInv.start : EncInv [] [] [0, 0] := ⟨0, 0, rfl, rfl⟩
theorem EncInv.facts {pre out as : List Int} (h : EncInv pre out as) : ∃ bits chr, as = [bits, chr] ∧ (bits = 0 ∨ bits = 2 ∨ bits = 4) ∧ 0 ≤ chr ∧ chr < 65536 ∧ (∀ v ∈ out, 0 ≤ v ∧ v < 256) ∧ out.length ≤ 2 * pre.length := by
  obtain ⟨bits, chr, e, h⟩ := h
  obtain ⟨r1, r2, r3, r4, r5⟩ := enc_facts pre ([], 0, 0) (.inl rfl) (by decide) (by decide) (fun _ h => nomatch h)
  have h' : pre.foldl encStep ([], 0, 0) = (out, bits, chr) := h.symm
  rw [h'] at r1 r2 r3 r4 r5
  exact ⟨bits, chr, e, r1, r2, r3, r4, by simpa using r5⟩
theorem EncInv.step {pre out as : List Int} {n : Int} (h : EncInv pre out as) {st : List Int × Int × Int} (e : as = [st.2.1, st.2.2]) (e1 : out = st.1) : EncInv (pre ++ [n]) (encStep st n).1 [(encStep st n).2.1, (encStep st n).2.2] := by
  obtain ⟨bits, chr, e', h⟩ := h
  refine ⟨_, _, rfl, ?_⟩
  rw [encFold_snoc, ← h]
  rw [e] at e'
  simp only [List.cons.injEq, and_true] at e'
  rw [e1, ← e'.1, ← e'.2]
theorem step0 {pre out : List Int} {n chr : Int} {c : Int} (h : EncInv pre out [0, chr]) (e : c = (chr * 256 + n) % 65536) : EncInv (pre ++ [n]) (out ++ [b64sgn (c / 4 % 64)]) [2, c] := by
  subst e; exact EncInv.step (st := (out, 0, chr)) h rfl rfl
theorem step2 {pre out : List Int} {n chr : Int} {c : Int} (h : EncInv pre out [2, chr]) (e : c = (chr * 256 + n) % 65536) : EncInv (pre ++ [n]) (out ++ [b64sgn (c / 16 % 64)]) [4, c] := by
  subst e; exact EncInv.step (st := (out, 2, chr)) h rfl rfl
theorem step4 {pre out : List Int} {n chr : Int} {c : Int} (h : EncInv pre out [4, chr]) (e : c = (chr * 256 + n) % 65536) : EncInv (pre ++ [n]) (out ++ [b64sgn (c / 64 % 64)] ++ [b64sgn (c % 64)]) [0, c] := by
  subst e; rw [List.append_assoc]; exact EncInv.step (st := (out, 4, chr)) h rfl rfl
theorem EncInv.out0 {pre out : List Int} {c : Int} (h : EncInv pre out [0, c]) : out = encOut pre := by
  obtain ⟨bits, chr, e, h⟩ := h
  simp only [List.cons.injEq, and_true] at e
  unfold encOut
  rw [← h, ← e.1]
  rfl
theorem EncInv.out2 {pre out : List Int} {c : Int} (h : EncInv pre out [2, c]) : out ++ [b64sgn (c % 4 * 16)] ++ [61] ++ [61] = encOut pre := by
  obtain ⟨bits, chr, e, h⟩ := h
  simp only [List.cons.injEq, and_true] at e
  unfold encOut
  rw [← h, ← e.1, ← e.2]
  simp [encTail]
theorem EncInv.out4 {pre out : List Int} {c : Int} (h : EncInv pre out [4, c]) : out ++ [b64sgn (c % 16 * 4)] ++ [61] = encOut pre := by
  obtain ⟨bits, chr, e, h⟩ := h
  simp only [List.cons.injEq, and_true] at e
  unfold encOut
  rw [← h, ← e.1, ← e.2]
  simp [encTail]
theorem in_snoc {out : List Int} {v : Int} (h : ∀ v ∈ out, 0 ≤ v ∧ v < 256) (h0 : 0 ≤ v) (h1 : v < 256) : ∀ x ∈ out ++ [v], 0 ≤ x ∧ x < 256 := fun x hx => by
  rcases List.mem_append.mp hx with h' | h'
  · exact h x h'
  · rw [List.mem_singleton.mp h']; exact ⟨h0, h1⟩
section
variable {prog : Program} {w : World} {p : Program} {loose : List Str} {mean : ExcName → Option Value} {mg mb : Str → Option Value}
theorem b2a (b : Array UInt8) (tb : Tok) (hb : b.size ≤ 12) : Claim prog w p loose mean mg mb 108 2 [.bytes b tb] (fun t => .bytes (byteArr (encOut (KBw.bInts b))) t) [(Str.ofString "newline", .bool false)] := by
  dsimp only [Claim, RetV]
  intros
  rename_i hret
  refine wpAny_call ?_
  (refine' code_def ?k1 ?k2 ?k3 ?k4 ?k5 ?kA ?kF ?kK ?k6 ?k7 ?k8 ?k9 ?kB ?_ ?c2 ?c3 ?c4 ?c5; (case kA => exact rfl); (case kF => exact rfl); (case kK => assumption); (case k1 => k_asm); (case k2 => k_asm); (case k3 => k_asm); (case k4 => k_asm); (case k5 => k_asm); (case k6 => k_is); (case k7 => k_is); (case k8 => first | (dsimp only [ktrTop]; omega) | ktr_room); (case k9 => first | exact BindsTo.of_eq rfl | exact binds_K (by k_in) rfl (by k_is) rfl rfl rfl); (case c5 => decide); (case kB => exact locs rfl); (case c2 => exact rfl); (case c3 => exact rfl); (case c4 => exact rfl); k_whole; intro g1 L1 h1 FG1 F1 N1 B1 X1 T1; (try dsimp only); (try k_lift B1); (try k_fold))
  (refine hide_defR (P := LeaveK _ _ _ _ _) ?_; intro K9 hR9; (try dsimp only))
  (refine let_around ?_; intro A9)
  k_with_none
  k_with "exec If" => (with_reducible refine wpAny_If ?_)
  k_with "isTrue Compare" => ((with_reducible show wpAny _ _ (isTrue (Expr.Compare (Expr.Name _ _) [CmpOp.Eq] [Expr.Constant (Const.int _) _ _] _) _ _) _ _ _); k_dflt (refine' test_eq ?F ?v ?_ ?a ?b ?d; (case F => k_asm); (case a => rfl); (case b => rfl); (case d => decide); (case v => rfl)); (try dsimp only))
  k_with "isTrue Compare" => ((with_reducible show wpAny _ _ (isTrue (Expr.Compare (Expr.Name _ _) [CmpOp.NotEq] [Expr.Constant (Const.int _) _ _] _) _ _) _ _ _); k_dflt (refine' test_ne ?F ?v ?_ ?a ?b ?d; (case F => k_asm); (case a => rfl); (case b => rfl); (case d => decide); (case v => rfl)); (try dsimp only))
  k_with "isTrue Compare" => ((with_reducible show wpAny _ _ (isTrue (Expr.Compare (Expr.Name _ _) [CmpOp.Lt] [Expr.Constant (Const.int _) _ _] _) _ _) _ _ _); k_dflt (refine' test_lt ?F ?v ?_ ?a ?b ?d; (case F => k_asm); (case a => rfl); (case b => rfl); (case d => decide); (case v => rfl)); (try dsimp only))
  k_with "isTrue Compare" => ((with_reducible show wpAny _ _ (isTrue (Expr.Compare (Expr.Name _ _) [CmpOp.LtE] [Expr.Constant (Const.int _) _ _] _) _ _) _ _ _); k_dflt (refine' test_le ?F ?v ?_ ?a ?b ?d; (case F => k_asm); (case a => rfl); (case b => rfl); (case d => decide); (case v => rfl)); (try dsimp only))
  k_with "isTrue Compare" => ((with_reducible show wpAny _ _ (isTrue (Expr.Compare (Expr.Name _ _) [CmpOp.GtE] [Expr.Constant (Const.int _) _ _] _) _ _) _ _ _); k_dflt (refine' test_ge ?F ?v ?_ ?a ?b ?d; (case F => k_asm); (case a => rfl); (case b => rfl); (case d => decide); (case v => rfl)); (try dsimp only))
  k_with "Thn" => first | (refine hK9 _ _ ?_; (try clear hK9); (try dsimp only)) | (refine hK9 _ ?_; (try clear hK9); (try dsimp only))
  k_with "Rtn" => (refine hR9 _ _ ?_)
  k_with "Trn" => (refine hN9 _ _ ?_; (try dsimp only))
  k_with "ThB" => refine thb_ite ?_
  k_with "ThB true" => (refine hT9 _ ?_; (try clear hT9 hF9); (try dsimp only [List.cons_append, List.nil_append, List.append_nil]))
  k_with "ThB false" => (refine hF9 _ ?_; (try clear hT9 hF9); (try dsimp only [List.cons_append, List.nil_append, List.append_nil]))
  k_with "execs cons If" => (refine flat_if ?_; intro K9 hT9 hF9)
  k_with "execs cons If" => k_dflt ((first | (refine' if_pb (lit := false) (n := 6) ?F ?c ?_ ?_; (case F => k_asm); (case c => exact rfl)) | (refine' if_p (lit := false) (n := 6) ?F ?c ?_ ?_; (case F => k_asm); (case c => exact rfl))); (all_goals (intro k9 hb9; first | (exfalso; omega) | dsimp only [List.cons_append, List.nil_append, List.append_nil] | skip)))
  k_with "execs cons If" => k_dflt ((first | (refine' if_T (lit := true) (n := 6) ?F ?c ?_; (case F => k_asm); (case c => exact rfl)) | (refine' if_F (lit := true) (n := 6) ?F ?c ?_; (case F => k_asm); (case c => exact rfl))); intro k9; (try dsimp only [List.cons_append, List.nil_append, List.append_nil]))
  k_with "execs cons If" => k_dflt (refine' if_p (lit := true) (n := 6) ?F ?c ?_ ?_; (case F => k_asm); (case c => exact rfl); (all_goals (intro k9 hb9; first | (exfalso; omega) | dsimp only [List.cons_append, List.nil_append, List.append_nil] | skip)))
  k_with "execs cons Assign" => ((fail_if_success (with_reducible show wpAny _ _ (execs (Stmt.Assign _ (Expr.ListComp _ _ _ _) _ :: _) _) _ _ _)); refine' flat_asg ?_ ?s; (case s => exact rfl); intro K9 hK9)
  k_with "execs cons Assign" => k_dflt (refine' asg_ev (n := 6) ?F ?N ?L ?x ?s ?e ?_; (case F => k_asm); (case N => k_asm); (case L => exact rfl); (case x => exact rfl); (case s => exact rfl); (case e => exact rfl); intro t9 k9 h' m9 F' N'; (try dsimp only); (try k_sweep))
  k_with "storeName" => k_dflt (refine' store_ev ?F ?N ?L ?x ?_; (case F => k_asm); (case N => k_asm); (case L => exact rfl); (case x => exact rfl); intro h' k9 m9 F' N'; (try dsimp only); (try k_sweep))
  k_with "execs cons Return" => (refine flat_ret ?_; intro K9 hK9)
  k_with "execs cons Return" => k_dflt (refine' ret_ev (n := 6) ?F ?e ?_; (case F => k_asm); (case e => exact rfl); intro t9 k9; (try dsimp only))
  k_with "execs cons Expr" => (refine' flat_expr ?_ ?i ?s; (case i => exact rfl); (case s => exact rfl); intro K9 hK9)
  k_with "execs cons Raise" => refine flat_raise ?_
  k_with "execs cons Continue" => refine flat_cont ?_
  k_with "spliced" => plain_pass; k_dflt (refine' args_ev (n := 6) ?F ?e ?_; (case F => k_asm); (case e => exact rfl); intro t9 k9; (try dsimp only [vals, List.cons_append, List.nil_append]))
  k_with "eval Call Name" => plain_pass; k_dflt (refine' callN_ev (n := 6) ?F ?X ?T ?f ?v ?w ?g ?e ?_ ?a ?b ?d; (case F => k_asm); (case e => exact rfl); (case b => exact rfl); (case X => k_asm); (case T => k_asm); (case a => exact rfl); (case f => k_is); (case v => boot_fast); (case w => exact rfl); (case g => decide); (case d => decide); intro t9 k9; (try dsimp only [vals]))
  k_with "eval Call Name" => plain_pass; k_dflt (refine' call_ev (n := 6) ?F ?X ?T ?f ?k ?e ?_ ?a ?b ?d; (case F => k_asm); (case e => exact rfl); (case b => exact rfl); (case X => k_asm); (case T => k_asm); (case a => exact rfl); (case f => k_is); (case k => k_is); (case d => decide); intro t9 k9; (try dsimp only [vals]))
  k_with "call ref" => ((with_reducible show wpAny _ _ (call (Value.ref 78) [Value.bytes _ _]) _ _ _); (refine' buffer _ _ _ _ _ _ _ _ _ _ _ _ _ _ _ _ _ _ _ _ ?k1 ?k2 ?k3 ?k4 ?k5 ?kK ?kd ?ku ?_; (case k1 => k_asm); (case k2 => k_asm); (case k3 => k_asm); (case k4 => k_asm); (case k5 => k_asm); (case kK => first | exact rfl | assumption); (case kd => first | (dsimp only [Around.deeper]; omega) | ktr_room); (case ku => first | (dsimp only [Around.deeper]; omega) | ktr_units); intro t9 h9 tk9 F9 N9; (try dsimp only); (try k_fold)))
  k_with "call ref" => ((with_reducible show wpAny _ _ (call (Value.ref 85) [Value.bool _]) _ _ _); (refine' truth_bool _ _ _ _ _ _ _ _ _ _ _ _ _ _ _ _ _ _ _ ?k1 ?k2 ?k3 ?k4 ?k5 ?kK ?kd ?ku ?_; (case k1 => k_asm); (case k2 => k_asm); (case k3 => k_asm); (case k4 => k_asm); (case k5 => k_asm); (case kK => first | exact rfl | assumption); (case kd => first | (dsimp only [Around.deeper]; omega) | ktr_room); (case ku => first | (dsimp only [Around.deeper]; omega) | ktr_units); intro t9 h9 tk9 F9 N9; (try dsimp only); (try k_fold)))
  k_with "call builtin:list.append" => ((with_reducible show wpAny _ _ (call (Value.builtin "list.append") [Value.ref _, _]) _ _ _); (refine' append_off ?k1 ?k2 ?k3 ?_ ?kz; (case k1 => k_asm); (case k2 => k_asm); (case k3 => assumption); (case kz => ((simp only [Array.size_push, List.size_toArray]); (rw [sizeLine_eq]); omega)); intro h9 F9 N9; (try k_sweep)))
  k_with "subscriptTail" => ((with_reducible show wpAny _ _ (subscriptTail _ _ (Value.bytes _ _) (Value.int _ _)) _ _ _); (refine' item_b64 ?k1 ?k2 ?_ ?k3 ?k4; (case k1 => omega); (case k2 => omega); (case k3 => with_unfolding_all rfl); (case k4 => (intro _; with_unfolding_all rfl)); intro t9 k9; (try dsimp only)))
  k_with "binaryOp BitAnd int int" => first | refine and_m2 ?_ | refine and_m4 ?_ | refine and_m6 ?_ | refine and_m16 ?_
  k_with "binaryOp RShift int int" => first | refine shr_k 2 4 (by decide) rfl ?_ | refine shr_k 4 16 (by decide) rfl ?_ | refine shr_k 6 64 (by decide) rfl ?_ | refine shr_k 0 1 (by decide) rfl ?_
  k_with "binaryOp LShift int int" => (first | refine shl_4 ?h0 ?h1 ?_ | refine shl_16 ?h0 ?h1 ?_ | refine shl_64 ?h0 ?h1 ?_ | refine shl_256 ?h0 ?h1 ?_); (case h0 => omega); (case h1 => omega)
  k_with "binaryOp BitOr int int" => (first | refine or_4 ?h0 ?h1 ?h2 ?_ | refine or_16 ?h0 ?h1 ?h2 ?_ | refine or_64 ?h0 ?h1 ?h2 ?_ | refine or_256 ?h0 ?h1 ?h2 ?_); (case h0 => omega); (case h1 => omega); (case h2 => omega)
  k_with "InvEndN" => refine stop ?_
  k_with "pyIter bytes" => refine stop ?_
  k_steps
  refine Stop.go ?_
  refine bytesFor [Str.ofString "leftbits", Str.ofString "leftchar"] [Str.ofString "out", Str.ofString "newline"] EncInv rfl (by k_asm) (by k_asm) (by assumption) IntsAre.nil (as₀ := [(_, _), (_, _)]) (by rfl) (kv := [_, _]) (by rfl) EncInv.start ?_ ?_
  · intro pre post n t u as out vs nn h tk own hbs hn0 hn1 hlen hoff hI hP F1 N1
    obtain ⟨⟨a1, t1⟩, ⟨a2, t2⟩, rfl⟩ := len2 hlen
    obtain ⟨bits, chr, e, hbits, hc0, hc1, hr, hl⟩ := hP.facts
    simp only [List.map, List.cons.injEq, and_true] at e
    obtain ⟨rfl, rfl⟩ := e
    have hvl : vs.length ≤ 100 := by
      have h1 := congrArg List.length hbs
      rw [KBw.ints_length, List.length_append] at h1
      rw [hI.length]
      omega
    simp only [ov, List.map, iv] at F1
    rcases hbits with rfl | rfl | rfl
    · try k_fold
      refine hide_turn ?_; intro T9 hN9
      k_steps
      refine Stop.go (outEnd [(_, _), (_, _)] (by k_asm) (by k_asm) (ints_push (arr := vs.toArray) hI) (by rfl) (by rfl) ?_)
      exact step0 hP rfl
    · try k_fold
      refine hide_turn ?_; intro T9 hN9
      k_steps
      refine Stop.go (outEnd [(_, _), (_, _)] (by k_asm) (by k_asm) (ints_push (arr := vs.toArray) hI) (by rfl) (by rfl) ?_)
      exact step2 hP rfl
    · try k_fold
      refine hide_turn ?_; intro T9 hN9
      k_steps
      refine Stop.go (outEnd [(_, _), (_, _)] (by k_asm) (by k_asm) (ints_push (ints_push (arr := vs.toArray) hI)) (by rfl) (by rfl) ?_)
      rw [Int.ediv_one]
      exact step4 hP rfl
  · intro u as out vs nn h tk hlen hI hP F1 N1
    obtain ⟨⟨a1, t1⟩, ⟨a2, t2⟩, rfl⟩ := len2 hlen
    obtain ⟨bits, chr, e, hbits, hc0, hc1, hr, hl⟩ := hP.facts
    simp only [List.map, List.cons.injEq, and_true] at e
    obtain ⟨rfl, rfl⟩ := e
    have hvl : vs.length ≤ 100 := by
      rw [KBw.ints_length] at hl
      rw [hI.length]
      omega
    have hol : out.length ≤ 100 := by
      rw [← hI.length]; exact hvl
    have hoff := fun (p : Addr × Obj) hp => Nat.ne_of_lt (‹∀ p ∈ _, p.1 < _› p hp)
    simp only [ov, List.map, iv] at F1
    k_with "call type:bytes" => refine stop ?_
    rcases hbits with rfl | rfl | rfl
    all_goals (try k_fold)
    all_goals k_steps
    · refine Stop.go (bytes_of (by k_asm) (by k_asm) (.head _) rfl (show IntsAre vs.toArray.toList out from hI) hr (by omega) ?_)
      intro h8 t8 k8 F8 N8
      k_steps
      exact retV _ hret (by k_asm) (by k_asm) (fun p hp => .tail _ hp) (by rw [EncInv.out0 hP])
    · refine Stop.go (bytes_of (by k_asm) (by k_asm) (.head _) rfl (ints_push (ints_push (ints_push (arr := vs.toArray) hI))) (in_snoc (in_snoc (in_snoc hr (b64sgn_in (by omega) (by omega)).1 (b64sgn_in (by omega) (by omega)).2) (by decide) (by decide)) (by decide) (by decide)) (by simp only [List.length_append, List.length_singleton]; omega) ?_)
      intro h8 t8 k8 F8 N8
      k_steps
      exact retV _ hret (by k_asm) (by k_asm) (fun p hp => .tail _ hp) (by rw [EncInv.out2 hP])
    · refine Stop.go (bytes_of (by k_asm) (by k_asm) (.head _) rfl (ints_push (ints_push (arr := vs.toArray) hI)) (in_snoc (in_snoc hr (b64sgn_in (by omega) (by omega)).1 (b64sgn_in (by omega) (by omega)).2) (by decide) (by decide)) (by simp only [List.length_append, List.length_singleton]; omega) ?_)
      intro h8 t8 k8 F8 N8
      k_steps
      exact retV _ hret (by k_asm) (by k_asm) (fun p hp => .tail _ hp) (by rw [EncInv.out4 hP])
end
end

theorem reset11 : True := by
  w_top off
  k_with_none
  trivial
section
theorem encOut_len (bs : List Int) : (encOut bs).length ≤ 2 * bs.length + 3 := by
  obtain ⟨_, _, _, _, r5⟩ := enc_facts bs ([], 0, 0) (.inl rfl) (by decide) (by decide) (fun _ h => nomatch h)
  simp only [List.length_nil, Nat.zero_add] at r5
  unfold encOut encTail encFold
  (repeat' split) <;> (try simp only [List.length_append, List.length_cons, List.length_nil]) <;> omega
theorem encOut_short {b : Array UInt8} (hb : b.size ≤ 12) : (encOut (KBw.bInts b)).length ≤ 27 := by
  have h := encOut_len (KBw.bInts b)
  rw [KBw.ints_length] at h
  omega
section
variable {prog : Program} {w : World} {p : Program} {loose : List Str} {mean : ExcName → Option Value} {mg mb : Str → Option Value}
theorem b64enc (b : Array UInt8) (tb : Tok) (hb : b.size ≤ 12) : Claim prog w p loose mean mg mb 139 3 [.bytes b tb] (fun t => .bytes (byteArr (encOut (KBw.bInts b))) t) := by
  dsimp only [Claim, RetV]
  intros
  rename_i hret
  refine wpAny_call ?_
  (refine' code_def ?k1 ?k2 ?k3 ?k4 ?k5 ?kA ?kF ?kK ?k6 ?k7 ?k8 ?k9 ?kB ?_ ?c2 ?c3 ?c4 ?c5; (case kA => exact rfl); (case kF => exact rfl); (case kK => assumption); (case k1 => k_asm); (case k2 => k_asm); (case k3 => k_asm); (case k4 => k_asm); (case k5 => k_asm); (case k6 => k_is); (case k7 => k_is); (case k8 => first | (dsimp only [ktrTop]; omega) | ktr_room); (case k9 => first | exact BindsTo.of_eq rfl | exact binds_K (by k_in) rfl (by k_is) rfl rfl rfl); (case c5 => decide); (case kB => exact locs rfl); (case c2 => exact rfl); (case c3 => exact rfl); (case c4 => exact rfl); k_whole; intro g1 L1 h1 FG1 F1 N1 B1 X1 T1; (try dsimp only); (try k_lift B1); (try k_fold))
  (refine hide_def (P := LeaveK _ _ _ _ _) ?_; intro K9 X9 hR9; (try dsimp only))
  (refine let_around ?_; intro A9)
  k_with_none
  k_with "exec If" => (with_reducible refine wpAny_If ?_)
  k_with "isTrue Compare" => ((with_reducible show wpAny _ _ (isTrue (Expr.Compare (Expr.Name _ _) [CmpOp.Eq] [Expr.Constant (Const.int _) _ _] _) _ _) _ _ _); k_dflt (refine' test_eq ?F ?v ?_ ?a ?b ?d; (case F => k_asm); (case a => rfl); (case b => rfl); (case d => decide); (case v => rfl)); (try dsimp only))
  k_with "isTrue Compare" => ((with_reducible show wpAny _ _ (isTrue (Expr.Compare (Expr.Name _ _) [CmpOp.NotEq] [Expr.Constant (Const.int _) _ _] _) _ _) _ _ _); k_dflt (refine' test_ne ?F ?v ?_ ?a ?b ?d; (case F => k_asm); (case a => rfl); (case b => rfl); (case d => decide); (case v => rfl)); (try dsimp only))
  k_with "isTrue Compare" => ((with_reducible show wpAny _ _ (isTrue (Expr.Compare (Expr.Name _ _) [CmpOp.Lt] [Expr.Constant (Const.int _) _ _] _) _ _) _ _ _); k_dflt (refine' test_lt ?F ?v ?_ ?a ?b ?d; (case F => k_asm); (case a => rfl); (case b => rfl); (case d => decide); (case v => rfl)); (try dsimp only))
  k_with "isTrue Compare" => ((with_reducible show wpAny _ _ (isTrue (Expr.Compare (Expr.Name _ _) [CmpOp.LtE] [Expr.Constant (Const.int _) _ _] _) _ _) _ _ _); k_dflt (refine' test_le ?F ?v ?_ ?a ?b ?d; (case F => k_asm); (case a => rfl); (case b => rfl); (case d => decide); (case v => rfl)); (try dsimp only))
  k_with "isTrue Compare" => ((with_reducible show wpAny _ _ (isTrue (Expr.Compare (Expr.Name _ _) [CmpOp.GtE] [Expr.Constant (Const.int _) _ _] _) _ _) _ _ _); k_dflt (refine' test_ge ?F ?v ?_ ?a ?b ?d; (case F => k_asm); (case a => rfl); (case b => rfl); (case d => decide); (case v => rfl)); (try dsimp only))
  k_with "Thn" => first | (refine hK9 _ _ ?_; (try clear hK9); (try dsimp only)) | (refine hK9 _ ?_; (try clear hK9); (try dsimp only))
  k_with "Rtn" => (refine hR9 _ _ ?_)
  k_with "Trn" => (refine hN9 _ _ ?_; (try dsimp only))
  k_with "ThB" => refine thb_ite ?_
  k_with "ThB true" => (refine hT9 _ ?_; (try clear hT9 hF9); (try dsimp only [List.cons_append, List.nil_append, List.append_nil]))
  k_with "ThB false" => (refine hF9 _ ?_; (try clear hT9 hF9); (try dsimp only [List.cons_append, List.nil_append, List.append_nil]))
  k_with "execs cons If" => (refine flat_if ?_; intro K9 hT9 hF9)
  k_with "execs cons If" => k_dflt ((first | (refine' if_pb (lit := false) (n := 6) ?F ?c ?_ ?_; (case F => k_asm); (case c => exact rfl)) | (refine' if_p (lit := false) (n := 6) ?F ?c ?_ ?_; (case F => k_asm); (case c => exact rfl))); (all_goals (intro k9 hb9; first | (exfalso; omega) | dsimp only [List.cons_append, List.nil_append, List.append_nil] | skip)))
  k_with "execs cons If" => k_dflt ((first | (refine' if_T (lit := true) (n := 6) ?F ?c ?_; (case F => k_asm); (case c => exact rfl)) | (refine' if_F (lit := true) (n := 6) ?F ?c ?_; (case F => k_asm); (case c => exact rfl))); intro k9; (try dsimp only [List.cons_append, List.nil_append, List.append_nil]))
  k_with "execs cons If" => k_dflt (refine' if_p (lit := true) (n := 6) ?F ?c ?_ ?_; (case F => k_asm); (case c => exact rfl); (all_goals (intro k9 hb9; first | (exfalso; omega) | dsimp only [List.cons_append, List.nil_append, List.append_nil] | skip)))
  k_with "execs cons Assign" => ((fail_if_success (with_reducible show wpAny _ _ (execs (Stmt.Assign _ (Expr.ListComp _ _ _ _) _ :: _) _) _ _ _)); refine' flat_asg ?_ ?s; (case s => exact rfl); intro K9 hK9)
  k_with "execs cons Assign" => k_dflt (refine' asg_ev (n := 6) ?F ?N ?L ?x ?s ?e ?_; (case F => k_asm); (case N => k_asm); (case L => exact rfl); (case x => exact rfl); (case s => exact rfl); (case e => exact rfl); intro t9 k9 h' m9 F' N'; (try dsimp only); (try k_sweep))
  k_with "storeName" => k_dflt (refine' store_ev ?F ?N ?L ?x ?_; (case F => k_asm); (case N => k_asm); (case L => exact rfl); (case x => exact rfl); intro h' k9 m9 F' N'; (try dsimp only); (try k_sweep))
  k_with "execs cons Return" => (refine flat_ret ?_; intro K9 hK9)
  k_with "execs cons Return" => k_dflt (refine' ret_ev (n := 6) ?F ?e ?_; (case F => k_asm); (case e => exact rfl); intro t9 k9; (try dsimp only))
  k_with "execs cons Expr" => (refine' flat_expr ?_ ?i ?s; (case i => exact rfl); (case s => exact rfl); intro K9 hK9)
  k_with "execs cons Raise" => refine flat_raise ?_
  k_with "execs cons Continue" => refine flat_cont ?_
  k_with "spliced" => plain_pass; k_dflt (refine' args_ev (n := 6) ?F ?e ?_; (case F => k_asm); (case e => exact rfl); intro t9 k9; (try dsimp only [vals, List.cons_append, List.nil_append]))
  k_with "eval Call Name" => plain_pass; k_dflt (refine' callN_ev (n := 6) ?F ?X ?T ?f ?v ?w ?g ?e ?_ ?a ?b ?d; (case F => k_asm); (case e => exact rfl); (case b => exact rfl); (case X => k_asm); (case T => k_asm); (case a => exact rfl); (case f => k_is); (case v => boot_fast); (case w => exact rfl); (case g => decide); (case d => decide); intro t9 k9; (try dsimp only [vals]))
  k_with "eval Call Name" => plain_pass; k_dflt (refine' call_ev (n := 6) ?F ?X ?T ?f ?k ?e ?_ ?a ?b ?d; (case F => k_asm); (case e => exact rfl); (case b => exact rfl); (case X => k_asm); (case T => k_asm); (case a => exact rfl); (case f => k_is); (case k => k_is); (case d => decide); intro t9 k9; (try dsimp only [vals]))
  k_with "call type:type" => ((with_reducible show wpAny _ _ (call _ [Value.bytes _ _]) _ _ _); refine call_type_of (Tx := "bytes") rfl (by decide +kernel) ?_)
  k_with "call ref" => ((with_reducible show wpAny _ _ (call (Value.ref 78) [Value.bytes _ _]) _ _ _); (refine' buffer _ _ _ _ _ _ _ _ _ _ _ _ _ _ _ _ _ _ _ _ ?k1 ?k2 ?k3 ?k4 ?k5 ?kK ?kd ?ku ?_; (case k1 => k_asm); (case k2 => k_asm); (case k3 => k_asm); (case k4 => k_asm); (case k5 => k_asm); (case kK => first | exact rfl | assumption); (case kd => first | (dsimp only [Around.deeper]; omega) | ktr_room); (case ku => first | (dsimp only [Around.deeper]; omega) | ktr_units); intro t9 h9 tk9 F9 N9; (try dsimp only); (try k_fold)))
  k_with "call ref" => ((with_reducible show wpAny _ _ (call (Value.ref 108) [Value.bytes _ _] _) _ _ _); (refine' b2a _ _ (by assumption) _ _ _ _ _ _ _ _ _ _ _ _ _ _ _ _ _ _ ?k1 ?k2 ?k3 ?k4 ?k5 ?kK ?kd ?ku ?_; (case k1 => k_asm); (case k2 => k_asm); (case k3 => k_asm); (case k4 => k_asm); (case k5 => k_asm); (case kK => first | exact rfl | assumption); (case kd => first | (dsimp only [Around.deeper]; omega) | ktr_room); (case ku => first | (dsimp only [Around.deeper]; omega) | ktr_units); intro t9 h9 tk9 F9 N9; (try dsimp only); (try k_fold)))
  k_with "getMethod bytes" => first | (with_reducible refine method_translate ?_) | (with_reducible refine method_upper ?_) | (with_reducible refine method_hex ?_)
  k_with "call builtin:bytes.translate" => (refine' translate ?k1 ?k2 ?_; (case k1 => first | exact mkT_size _ _ | decide +kernel | rfl); (case k2 => first | ((try simp only [byteArr_size]); omega) | assumption); intro t9 k9; (try dsimp only))
  k_with "call builtin:bytes.upper" => (refine' upper ?k2 ?_; (case k2 => first | ((try simp only [byteArr_size, Array.size_map, hexCps_size]); omega) | assumption); intro t9 k9; (try dsimp only))
  k_with "call builtin:bytes.hex" => (refine' hex ?k2 ?_; (case k2 => omega); intro t9 k9; (try dsimp only))
  k_with "call builtin:str.encode" => (refine' encode ?k1 ?k2 ?_; (case k1 => exact hexCps_lt _); (case k2 => (show Array.size (hexCps _) ≤ _; rw [hexCps_size]; omega)); intro t9 k9; (try dsimp only))
  k_with "getMethod str" => (with_reducible refine method_encode ?_)
  k_with "getMethod type:bytes" => (refine' method_type ?F ?X ?m (by decide +kernel) ?e ?h ?_; (case F => k_asm); (case X => k_asm); (case m => first | rfl | kernel_rfl); (case e => k_dflt k_is); (case h => k_handed))
  k_with "call builtin:bytes.maketrans" => (refine' maketrans ?k1 ?_; (case k1 => first | exact Eq.symm (by assumption) | assumption | (simp only [List.size_toArray, List.length_cons, List.length_nil]; omega)); intro t9 k9; (try dsimp only))
  k_steps
  exact retV _ hret (by k_asm) (by k_asm) (fun p hp => hp) rfl
theorem b64encP (b c : Array UInt8) (tb tc : Tok) (hb : b.size ≤ 12) (hc : c.size = 2) : Claim prog w p loose mean mg mb 139 3 [.bytes b tb, .bytes c tc] (fun t => .bytes (trans (mkT #[43, 47] c) (byteArr (encOut (KBw.bInts b)))) t) := by
  dsimp only [Claim, RetV]
  intros
  rename_i hret
  have he := encOut_short hb
  refine wpAny_call ?_
  (refine' code_def ?k1 ?k2 ?k3 ?k4 ?k5 ?kA ?kF ?kK ?k6 ?k7 ?k8 ?k9 ?kB ?_ ?c2 ?c3 ?c4 ?c5; (case kA => exact rfl); (case kF => exact rfl); (case kK => assumption); (case k1 => k_asm); (case k2 => k_asm); (case k3 => k_asm); (case k4 => k_asm); (case k5 => k_asm); (case k6 => k_is); (case k7 => k_is); (case k8 => first | (dsimp only [ktrTop]; omega) | ktr_room); (case k9 => first | exact BindsTo.of_eq rfl | exact binds_K (by k_in) rfl (by k_is) rfl rfl rfl); (case c5 => decide); (case kB => exact locs rfl); (case c2 => exact rfl); (case c3 => exact rfl); (case c4 => exact rfl); k_whole; intro g1 L1 h1 FG1 F1 N1 B1 X1 T1; (try dsimp only); (try k_lift B1); (try k_fold))
  (refine hide_def (P := LeaveK _ _ _ _ _) ?_; intro K9 X9 hR9; (try dsimp only))
  (refine let_around ?_; intro A9)
  k_with_none
  k_with "exec If" => (with_reducible refine wpAny_If ?_)
  k_with "isTrue Compare" => ((with_reducible show wpAny _ _ (isTrue (Expr.Compare (Expr.Name _ _) [CmpOp.Eq] [Expr.Constant (Const.int _) _ _] _) _ _) _ _ _); k_dflt (refine' test_eq ?F ?v ?_ ?a ?b ?d; (case F => k_asm); (case a => rfl); (case b => rfl); (case d => decide); (case v => rfl)); (try dsimp only))
  k_with "isTrue Compare" => ((with_reducible show wpAny _ _ (isTrue (Expr.Compare (Expr.Name _ _) [CmpOp.NotEq] [Expr.Constant (Const.int _) _ _] _) _ _) _ _ _); k_dflt (refine' test_ne ?F ?v ?_ ?a ?b ?d; (case F => k_asm); (case a => rfl); (case b => rfl); (case d => decide); (case v => rfl)); (try dsimp only))
  k_with "isTrue Compare" => ((with_reducible show wpAny _ _ (isTrue (Expr.Compare (Expr.Name _ _) [CmpOp.Lt] [Expr.Constant (Const.int _) _ _] _) _ _) _ _ _); k_dflt (refine' test_lt ?F ?v ?_ ?a ?b ?d; (case F => k_asm); (case a => rfl); (case b => rfl); (case d => decide); (case v => rfl)); (try dsimp only))
  k_with "isTrue Compare" => ((with_reducible show wpAny _ _ (isTrue (Expr.Compare (Expr.Name _ _) [CmpOp.LtE] [Expr.Constant (Const.int _) _ _] _) _ _) _ _ _); k_dflt (refine' test_le ?F ?v ?_ ?a ?b ?d; (case F => k_asm); (case a => rfl); (case b => rfl); (case d => decide); (case v => rfl)); (try dsimp only))
  k_with "isTrue Compare" => ((with_reducible show wpAny _ _ (isTrue (Expr.Compare (Expr.Name _ _) [CmpOp.GtE] [Expr.Constant (Const.int _) _ _] _) _ _) _ _ _); k_dflt (refine' test_ge ?F ?v ?_ ?a ?b ?d; (case F => k_asm); (case a => rfl); (case b => rfl); (case d => decide); (case v => rfl)); (try dsimp only))
  k_with "Thn" => first | (refine hK9 _ _ ?_; (try clear hK9); (try dsimp only)) | (refine hK9 _ ?_; (try clear hK9); (try dsimp only))
  k_with "Rtn" => (refine hR9 _ _ ?_)
  k_with "Trn" => (refine hN9 _ _ ?_; (try dsimp only))
  k_with "ThB" => refine thb_ite ?_
  k_with "ThB true" => (refine hT9 _ ?_; (try clear hT9 hF9); (try dsimp only [List.cons_append, List.nil_append, List.append_nil]))
  k_with "ThB false" => (refine hF9 _ ?_; (try clear hT9 hF9); (try dsimp only [List.cons_append, List.nil_append, List.append_nil]))
  k_with "execs cons If" => (refine flat_if ?_; intro K9 hT9 hF9)
  k_with "execs cons If" => k_dflt ((first | (refine' if_pb (lit := false) (n := 6) ?F ?c ?_ ?_; (case F => k_asm); (case c => exact rfl)) | (refine' if_p (lit := false) (n := 6) ?F ?c ?_ ?_; (case F => k_asm); (case c => exact rfl))); (all_goals (intro k9 hb9; first | (exfalso; omega) | dsimp only [List.cons_append, List.nil_append, List.append_nil] | skip)))
  k_with "execs cons If" => k_dflt ((first | (refine' if_T (lit := true) (n := 6) ?F ?c ?_; (case F => k_asm); (case c => exact rfl)) | (refine' if_F (lit := true) (n := 6) ?F ?c ?_; (case F => k_asm); (case c => exact rfl))); intro k9; (try dsimp only [List.cons_append, List.nil_append, List.append_nil]))
  k_with "execs cons If" => k_dflt (refine' if_p (lit := true) (n := 6) ?F ?c ?_ ?_; (case F => k_asm); (case c => exact rfl); (all_goals (intro k9 hb9; first | (exfalso; omega) | dsimp only [List.cons_append, List.nil_append, List.append_nil] | skip)))
  k_with "execs cons Assign" => ((fail_if_success (with_reducible show wpAny _ _ (execs (Stmt.Assign _ (Expr.ListComp _ _ _ _) _ :: _) _) _ _ _)); refine' flat_asg ?_ ?s; (case s => exact rfl); intro K9 hK9)
  k_with "execs cons Assign" => k_dflt (refine' asg_ev (n := 6) ?F ?N ?L ?x ?s ?e ?_; (case F => k_asm); (case N => k_asm); (case L => exact rfl); (case x => exact rfl); (case s => exact rfl); (case e => exact rfl); intro t9 k9 h' m9 F' N'; (try dsimp only); (try k_sweep))
  k_with "storeName" => k_dflt (refine' store_ev ?F ?N ?L ?x ?_; (case F => k_asm); (case N => k_asm); (case L => exact rfl); (case x => exact rfl); intro h' k9 m9 F' N'; (try dsimp only); (try k_sweep))
  k_with "execs cons Return" => (refine flat_ret ?_; intro K9 hK9)
  k_with "execs cons Return" => k_dflt (refine' ret_ev (n := 6) ?F ?e ?_; (case F => k_asm); (case e => exact rfl); intro t9 k9; (try dsimp only))
  k_with "execs cons Expr" => (refine' flat_expr ?_ ?i ?s; (case i => exact rfl); (case s => exact rfl); intro K9 hK9)
  k_with "execs cons Raise" => refine flat_raise ?_
  k_with "execs cons Continue" => refine flat_cont ?_
  k_with "spliced" => plain_pass; k_dflt (refine' args_ev (n := 6) ?F ?e ?_; (case F => k_asm); (case e => exact rfl); intro t9 k9; (try dsimp only [vals, List.cons_append, List.nil_append]))
  k_with "eval Call Name" => plain_pass; k_dflt (refine' callN_ev (n := 6) ?F ?X ?T ?f ?v ?w ?g ?e ?_ ?a ?b ?d; (case F => k_asm); (case e => exact rfl); (case b => exact rfl); (case X => k_asm); (case T => k_asm); (case a => exact rfl); (case f => k_is); (case v => boot_fast); (case w => exact rfl); (case g => decide); (case d => decide); intro t9 k9; (try dsimp only [vals]))
  k_with "eval Call Name" => plain_pass; k_dflt (refine' call_ev (n := 6) ?F ?X ?T ?f ?k ?e ?_ ?a ?b ?d; (case F => k_asm); (case e => exact rfl); (case b => exact rfl); (case X => k_asm); (case T => k_asm); (case a => exact rfl); (case f => k_is); (case k => k_is); (case d => decide); intro t9 k9; (try dsimp only [vals]))
  k_with "call type:type" => ((with_reducible show wpAny _ _ (call _ [Value.bytes _ _]) _ _ _); refine call_type_of (Tx := "bytes") rfl (by decide +kernel) ?_)
  k_with "call ref" => ((with_reducible show wpAny _ _ (call (Value.ref 78) [Value.bytes _ _]) _ _ _); (refine' buffer _ _ _ _ _ _ _ _ _ _ _ _ _ _ _ _ _ _ _ _ ?k1 ?k2 ?k3 ?k4 ?k5 ?kK ?kd ?ku ?_; (case k1 => k_asm); (case k2 => k_asm); (case k3 => k_asm); (case k4 => k_asm); (case k5 => k_asm); (case kK => first | exact rfl | assumption); (case kd => first | (dsimp only [Around.deeper]; omega) | ktr_room); (case ku => first | (dsimp only [Around.deeper]; omega) | ktr_units); intro t9 h9 tk9 F9 N9; (try dsimp only); (try k_fold)))
  k_with "call ref" => ((with_reducible show wpAny _ _ (call (Value.ref 108) [Value.bytes _ _] _) _ _ _); (refine' b2a _ _ (by assumption) _ _ _ _ _ _ _ _ _ _ _ _ _ _ _ _ _ _ ?k1 ?k2 ?k3 ?k4 ?k5 ?kK ?kd ?ku ?_; (case k1 => k_asm); (case k2 => k_asm); (case k3 => k_asm); (case k4 => k_asm); (case k5 => k_asm); (case kK => first | exact rfl | assumption); (case kd => first | (dsimp only [Around.deeper]; omega) | ktr_room); (case ku => first | (dsimp only [Around.deeper]; omega) | ktr_units); intro t9 h9 tk9 F9 N9; (try dsimp only); (try k_fold)))
  k_with "getMethod bytes" => first | (with_reducible refine method_translate ?_) | (with_reducible refine method_upper ?_) | (with_reducible refine method_hex ?_)
  k_with "call builtin:bytes.translate" => (refine' translate ?k1 ?k2 ?_; (case k1 => first | exact mkT_size _ _ | decide +kernel | rfl); (case k2 => first | ((try simp only [byteArr_size]); omega) | assumption); intro t9 k9; (try dsimp only))
  k_with "call builtin:bytes.upper" => (refine' upper ?k2 ?_; (case k2 => first | ((try simp only [byteArr_size, Array.size_map, hexCps_size]); omega) | assumption); intro t9 k9; (try dsimp only))
  k_with "call builtin:bytes.hex" => (refine' hex ?k2 ?_; (case k2 => omega); intro t9 k9; (try dsimp only))
  k_with "call builtin:str.encode" => (refine' encode ?k1 ?k2 ?_; (case k1 => exact hexCps_lt _); (case k2 => (show Array.size (hexCps _) ≤ _; rw [hexCps_size]; omega)); intro t9 k9; (try dsimp only))
  k_with "getMethod str" => (with_reducible refine method_encode ?_)
  k_with "getMethod type:bytes" => (refine' method_type ?F ?X ?m (by decide +kernel) ?e ?h ?_; (case F => k_asm); (case X => k_asm); (case m => first | rfl | kernel_rfl); (case e => k_dflt k_is); (case h => k_handed))
  k_with "call builtin:bytes.maketrans" => (refine' maketrans ?k1 ?_; (case k1 => first | exact Eq.symm (by assumption) | assumption | (simp only [List.size_toArray, List.length_cons, List.length_nil]; omega)); intro t9 k9; (try dsimp only))
  k_steps
  rotate_left
  · exfalso; omega
  exact retV _ hret (by k_asm) (by k_asm) (fun p hp => hp) rfl
theorem stdenc (b : Array UInt8) (tb : Tok) (hb : b.size ≤ 12) : Claim prog w p loose mean mg mb 154 4 [.bytes b tb] (fun t => .bytes (byteArr (encOut (KBw.bInts b))) t) := by
  dsimp only [Claim, RetV]
  intros
  rename_i hret
  refine wpAny_call ?_
  (refine' code_def ?k1 ?k2 ?k3 ?k4 ?k5 ?kA ?kF ?kK ?k6 ?k7 ?k8 ?k9 ?kB ?_ ?c2 ?c3 ?c4 ?c5; (case kA => exact rfl); (case kF => exact rfl); (case kK => assumption); (case k1 => k_asm); (case k2 => k_asm); (case k3 => k_asm); (case k4 => k_asm); (case k5 => k_asm); (case k6 => k_is); (case k7 => k_is); (case k8 => first | (dsimp only [ktrTop]; omega) | ktr_room); (case k9 => first | exact BindsTo.of_eq rfl | exact binds_K (by k_in) rfl (by k_is) rfl rfl rfl); (case c5 => decide); (case kB => exact locs rfl); (case c2 => exact rfl); (case c3 => exact rfl); (case c4 => exact rfl); k_whole; intro g1 L1 h1 FG1 F1 N1 B1 X1 T1; (try dsimp only); (try k_lift B1); (try k_fold))
  (refine hide_def (P := LeaveK _ _ _ _ _) ?_; intro K9 X9 hR9; (try dsimp only))
  (refine let_around ?_; intro A9)
  k_with_none
  k_with "exec If" => (with_reducible refine wpAny_If ?_)
  k_with "isTrue Compare" => ((with_reducible show wpAny _ _ (isTrue (Expr.Compare (Expr.Name _ _) [CmpOp.Eq] [Expr.Constant (Const.int _) _ _] _) _ _) _ _ _); k_dflt (refine' test_eq ?F ?v ?_ ?a ?b ?d; (case F => k_asm); (case a => rfl); (case b => rfl); (case d => decide); (case v => rfl)); (try dsimp only))
  k_with "isTrue Compare" => ((with_reducible show wpAny _ _ (isTrue (Expr.Compare (Expr.Name _ _) [CmpOp.NotEq] [Expr.Constant (Const.int _) _ _] _) _ _) _ _ _); k_dflt (refine' test_ne ?F ?v ?_ ?a ?b ?d; (case F => k_asm); (case a => rfl); (case b => rfl); (case d => decide); (case v => rfl)); (try dsimp only))
  k_with "isTrue Compare" => ((with_reducible show wpAny _ _ (isTrue (Expr.Compare (Expr.Name _ _) [CmpOp.Lt] [Expr.Constant (Const.int _) _ _] _) _ _) _ _ _); k_dflt (refine' test_lt ?F ?v ?_ ?a ?b ?d; (case F => k_asm); (case a => rfl); (case b => rfl); (case d => decide); (case v => rfl)); (try dsimp only))
  k_with "isTrue Compare" => ((with_reducible show wpAny _ _ (isTrue (Expr.Compare (Expr.Name _ _) [CmpOp.LtE] [Expr.Constant (Const.int _) _ _] _) _ _) _ _ _); k_dflt (refine' test_le ?F ?v ?_ ?a ?b ?d; (case F => k_asm); (case a => rfl); (case b => rfl); (case d => decide); (case v => rfl)); (try dsimp only))
  k_with "isTrue Compare" => ((with_reducible show wpAny _ _ (isTrue (Expr.Compare (Expr.Name _ _) [CmpOp.GtE] [Expr.Constant (Const.int _) _ _] _) _ _) _ _ _); k_dflt (refine' test_ge ?F ?v ?_ ?a ?b ?d; (case F => k_asm); (case a => rfl); (case b => rfl); (case d => decide); (case v => rfl)); (try dsimp only))
  k_with "Thn" => first | (refine hK9 _ _ ?_; (try clear hK9); (try dsimp only)) | (refine hK9 _ ?_; (try clear hK9); (try dsimp only))
  k_with "Rtn" => (refine hR9 _ _ ?_)
  k_with "Trn" => (refine hN9 _ _ ?_; (try dsimp only))
  k_with "ThB" => refine thb_ite ?_
  k_with "ThB true" => (refine hT9 _ ?_; (try clear hT9 hF9); (try dsimp only [List.cons_append, List.nil_append, List.append_nil]))
  k_with "ThB false" => (refine hF9 _ ?_; (try clear hT9 hF9); (try dsimp only [List.cons_append, List.nil_append, List.append_nil]))
  k_with "execs cons If" => (refine flat_if ?_; intro K9 hT9 hF9)
  k_with "execs cons If" => k_dflt ((first | (refine' if_pb (lit := false) (n := 6) ?F ?c ?_ ?_; (case F => k_asm); (case c => exact rfl)) | (refine' if_p (lit := false) (n := 6) ?F ?c ?_ ?_; (case F => k_asm); (case c => exact rfl))); (all_goals (intro k9 hb9; first | (exfalso; omega) | dsimp only [List.cons_append, List.nil_append, List.append_nil] | skip)))
  k_with "execs cons If" => k_dflt ((first | (refine' if_T (lit := true) (n := 6) ?F ?c ?_; (case F => k_asm); (case c => exact rfl)) | (refine' if_F (lit := true) (n := 6) ?F ?c ?_; (case F => k_asm); (case c => exact rfl))); intro k9; (try dsimp only [List.cons_append, List.nil_append, List.append_nil]))
  k_with "execs cons If" => k_dflt (refine' if_p (lit := true) (n := 6) ?F ?c ?_ ?_; (case F => k_asm); (case c => exact rfl); (all_goals (intro k9 hb9; first | (exfalso; omega) | dsimp only [List.cons_append, List.nil_append, List.append_nil] | skip)))
  k_with "execs cons Assign" => ((fail_if_success (with_reducible show wpAny _ _ (execs (Stmt.Assign _ (Expr.ListComp _ _ _ _) _ :: _) _) _ _ _)); refine' flat_asg ?_ ?s; (case s => exact rfl); intro K9 hK9)
  k_with "execs cons Assign" => k_dflt (refine' asg_ev (n := 6) ?F ?N ?L ?x ?s ?e ?_; (case F => k_asm); (case N => k_asm); (case L => exact rfl); (case x => exact rfl); (case s => exact rfl); (case e => exact rfl); intro t9 k9 h' m9 F' N'; (try dsimp only); (try k_sweep))
  k_with "storeName" => k_dflt (refine' store_ev ?F ?N ?L ?x ?_; (case F => k_asm); (case N => k_asm); (case L => exact rfl); (case x => exact rfl); intro h' k9 m9 F' N'; (try dsimp only); (try k_sweep))
  k_with "execs cons Return" => (refine flat_ret ?_; intro K9 hK9)
  k_with "execs cons Return" => k_dflt (refine' ret_ev (n := 6) ?F ?e ?_; (case F => k_asm); (case e => exact rfl); intro t9 k9; (try dsimp only))
  k_with "execs cons Expr" => (refine' flat_expr ?_ ?i ?s; (case i => exact rfl); (case s => exact rfl); intro K9 hK9)
  k_with "execs cons Raise" => refine flat_raise ?_
  k_with "execs cons Continue" => refine flat_cont ?_
  k_with "spliced" => plain_pass; k_dflt (refine' args_ev (n := 6) ?F ?e ?_; (case F => k_asm); (case e => exact rfl); intro t9 k9; (try dsimp only [vals, List.cons_append, List.nil_append]))
  k_with "eval Call Name" => plain_pass; k_dflt (refine' callN_ev (n := 6) ?F ?X ?T ?f ?v ?w ?g ?e ?_ ?a ?b ?d; (case F => k_asm); (case e => exact rfl); (case b => exact rfl); (case X => k_asm); (case T => k_asm); (case a => exact rfl); (case f => k_is); (case v => boot_fast); (case w => exact rfl); (case g => decide); (case d => decide); intro t9 k9; (try dsimp only [vals]))
  k_with "eval Call Name" => plain_pass; k_dflt (refine' call_ev (n := 6) ?F ?X ?T ?f ?k ?e ?_ ?a ?b ?d; (case F => k_asm); (case e => exact rfl); (case b => exact rfl); (case X => k_asm); (case T => k_asm); (case a => exact rfl); (case f => k_is); (case k => k_is); (case d => decide); intro t9 k9; (try dsimp only [vals]))
  k_with "call type:type" => ((with_reducible show wpAny _ _ (call _ [Value.bytes _ _]) _ _ _); refine call_type_of (Tx := "bytes") rfl (by decide +kernel) ?_)
  k_with "call ref" => ((with_reducible show wpAny _ _ (call (Value.ref 78) [Value.bytes _ _]) _ _ _); (refine' buffer _ _ _ _ _ _ _ _ _ _ _ _ _ _ _ _ _ _ _ _ ?k1 ?k2 ?k3 ?k4 ?k5 ?kK ?kd ?ku ?_; (case k1 => k_asm); (case k2 => k_asm); (case k3 => k_asm); (case k4 => k_asm); (case k5 => k_asm); (case kK => first | exact rfl | assumption); (case kd => first | (dsimp only [Around.deeper]; omega) | ktr_room); (case ku => first | (dsimp only [Around.deeper]; omega) | ktr_units); intro t9 h9 tk9 F9 N9; (try dsimp only); (try k_fold)))
  k_with "call ref" => ((with_reducible show wpAny _ _ (call (Value.ref 108) [Value.bytes _ _] _) _ _ _); (refine' b2a _ _ (by assumption) _ _ _ _ _ _ _ _ _ _ _ _ _ _ _ _ _ _ ?k1 ?k2 ?k3 ?k4 ?k5 ?kK ?kd ?ku ?_; (case k1 => k_asm); (case k2 => k_asm); (case k3 => k_asm); (case k4 => k_asm); (case k5 => k_asm); (case kK => first | exact rfl | assumption); (case kd => first | (dsimp only [Around.deeper]; omega) | ktr_room); (case ku => first | (dsimp only [Around.deeper]; omega) | ktr_units); intro t9 h9 tk9 F9 N9; (try dsimp only); (try k_fold)))
  k_with "getMethod bytes" => first | (with_reducible refine method_translate ?_) | (with_reducible refine method_upper ?_) | (with_reducible refine method_hex ?_)
  k_with "call builtin:bytes.translate" => (refine' translate ?k1 ?k2 ?_; (case k1 => first | exact mkT_size _ _ | decide +kernel | rfl); (case k2 => first | ((try simp only [byteArr_size]); omega) | assumption); intro t9 k9; (try dsimp only))
  k_with "call builtin:bytes.upper" => (refine' upper ?k2 ?_; (case k2 => first | ((try simp only [byteArr_size, Array.size_map, hexCps_size]); omega) | assumption); intro t9 k9; (try dsimp only))
  k_with "call builtin:bytes.hex" => (refine' hex ?k2 ?_; (case k2 => omega); intro t9 k9; (try dsimp only))
  k_with "call builtin:str.encode" => (refine' encode ?k1 ?k2 ?_; (case k1 => exact hexCps_lt _); (case k2 => (show Array.size (hexCps _) ≤ _; rw [hexCps_size]; omega)); intro t9 k9; (try dsimp only))
  k_with "getMethod str" => (with_reducible refine method_encode ?_)
  k_with "getMethod type:bytes" => (refine' method_type ?F ?X ?m (by decide +kernel) ?e ?h ?_; (case F => k_asm); (case X => k_asm); (case m => first | rfl | kernel_rfl); (case e => k_dflt k_is); (case h => k_handed))
  k_with "call builtin:bytes.maketrans" => (refine' maketrans ?k1 ?_; (case k1 => first | exact Eq.symm (by assumption) | assumption | (simp only [List.size_toArray, List.length_cons, List.length_nil]; omega)); intro t9 k9; (try dsimp only))
  k_with "call ref" => ((with_reducible show wpAny _ _ (call (Value.ref 139) [Value.bytes _ _]) _ _ _); (refine' b64enc _ _ (by assumption) _ _ _ _ _ _ _ _ _ _ _ _ _ _ _ _ _ _ ?k1 ?k2 ?k3 ?k4 ?k5 ?kK ?kd ?ku ?_; (case k1 => k_asm); (case k2 => k_asm); (case k3 => k_asm); (case k4 => k_asm); (case k5 => k_asm); (case kK => first | exact rfl | assumption); (case kd => first | (dsimp only [Around.deeper]; omega) | ktr_room); (case ku => first | (dsimp only [Around.deeper]; omega) | ktr_units); intro t9 h9 tk9 F9 N9; (try dsimp only); (try k_fold)))
  k_steps
  exact retV _ hret (by k_asm) (by k_asm) (fun p hp => hp) rfl
theorem urlenc (b : Array UInt8) (tb : Tok) (hb : b.size ≤ 12) : Claim prog w p loose mean mg mb 168 4 [.bytes b tb] (fun t => .bytes (trans (mkT #[43, 47] #[45, 95]) (byteArr (encOut (KBw.bInts b)))) t) := by
  dsimp only [Claim, RetV]
  intros
  rename_i hret
  have he := encOut_short hb
  refine wpAny_call ?_
  (refine' code_def ?k1 ?k2 ?k3 ?k4 ?k5 ?kA ?kF ?kK ?k6 ?k7 ?k8 ?k9 ?kB ?_ ?c2 ?c3 ?c4 ?c5; (case kA => exact rfl); (case kF => exact rfl); (case kK => assumption); (case k1 => k_asm); (case k2 => k_asm); (case k3 => k_asm); (case k4 => k_asm); (case k5 => k_asm); (case k6 => k_is); (case k7 => k_is); (case k8 => first | (dsimp only [ktrTop]; omega) | ktr_room); (case k9 => first | exact BindsTo.of_eq rfl | exact binds_K (by k_in) rfl (by k_is) rfl rfl rfl); (case c5 => decide); (case kB => exact locs rfl); (case c2 => exact rfl); (case c3 => exact rfl); (case c4 => exact rfl); k_whole; intro g1 L1 h1 FG1 F1 N1 B1 X1 T1; (try dsimp only); (try k_lift B1); (try k_fold))
  (refine hide_def (P := LeaveK _ _ _ _ _) ?_; intro K9 X9 hR9; (try dsimp only))
  (refine let_around ?_; intro A9)
  k_with_none
  k_with "exec If" => (with_reducible refine wpAny_If ?_)
  k_with "isTrue Compare" => ((with_reducible show wpAny _ _ (isTrue (Expr.Compare (Expr.Name _ _) [CmpOp.Eq] [Expr.Constant (Const.int _) _ _] _) _ _) _ _ _); k_dflt (refine' test_eq ?F ?v ?_ ?a ?b ?d; (case F => k_asm); (case a => rfl); (case b => rfl); (case d => decide); (case v => rfl)); (try dsimp only))
  k_with "isTrue Compare" => ((with_reducible show wpAny _ _ (isTrue (Expr.Compare (Expr.Name _ _) [CmpOp.NotEq] [Expr.Constant (Const.int _) _ _] _) _ _) _ _ _); k_dflt (refine' test_ne ?F ?v ?_ ?a ?b ?d; (case F => k_asm); (case a => rfl); (case b => rfl); (case d => decide); (case v => rfl)); (try dsimp only))
  k_with "isTrue Compare" => ((with_reducible show wpAny _ _ (isTrue (Expr.Compare (Expr.Name _ _) [CmpOp.Lt] [Expr.Constant (Const.int _) _ _] _) _ _) _ _ _); k_dflt (refine' test_lt ?F ?v ?_ ?a ?b ?d; (case F => k_asm); (case a => rfl); (case b => rfl); (case d => decide); (case v => rfl)); (try dsimp only))
  k_with "isTrue Compare" => ((with_reducible show wpAny _ _ (isTrue (Expr.Compare (Expr.Name _ _) [CmpOp.LtE] [Expr.Constant (Const.int _) _ _] _) _ _) _ _ _); k_dflt (refine' test_le ?F ?v ?_ ?a ?b ?d; (case F => k_asm); (case a => rfl); (case b => rfl); (case d => decide); (case v => rfl)); (try dsimp only))
  k_with "isTrue Compare" => ((with_reducible show wpAny _ _ (isTrue (Expr.Compare (Expr.Name _ _) [CmpOp.GtE] [Expr.Constant (Const.int _) _ _] _) _ _) _ _ _); k_dflt (refine' test_ge ?F ?v ?_ ?a ?b ?d; (case F => k_asm); (case a => rfl); (case b => rfl); (case d => decide); (case v => rfl)); (try dsimp only))
  k_with "Thn" => first | (refine hK9 _ _ ?_; (try clear hK9); (try dsimp only)) | (refine hK9 _ ?_; (try clear hK9); (try dsimp only))
  k_with "Rtn" => (refine hR9 _ _ ?_)
  k_with "Trn" => (refine hN9 _ _ ?_; (try dsimp only))
  k_with "ThB" => refine thb_ite ?_
  k_with "ThB true" => (refine hT9 _ ?_; (try clear hT9 hF9); (try dsimp only [List.cons_append, List.nil_append, List.append_nil]))
  k_with "ThB false" => (refine hF9 _ ?_; (try clear hT9 hF9); (try dsimp only [List.cons_append, List.nil_append, List.append_nil]))
  k_with "execs cons If" => (refine flat_if ?_; intro K9 hT9 hF9)
  k_with "execs cons If" => k_dflt ((first | (refine' if_pb (lit := false) (n := 6) ?F ?c ?_ ?_; (case F => k_asm); (case c => exact rfl)) | (refine' if_p (lit := false) (n := 6) ?F ?c ?_ ?_; (case F => k_asm); (case c => exact rfl))); (all_goals (intro k9 hb9; first | (exfalso; omega) | dsimp only [List.cons_append, List.nil_append, List.append_nil] | skip)))
  k_with "execs cons If" => k_dflt ((first | (refine' if_T (lit := true) (n := 6) ?F ?c ?_; (case F => k_asm); (case c => exact rfl)) | (refine' if_F (lit := true) (n := 6) ?F ?c ?_; (case F => k_asm); (case c => exact rfl))); intro k9; (try dsimp only [List.cons_append, List.nil_append, List.append_nil]))
  k_with "execs cons If" => k_dflt (refine' if_p (lit := true) (n := 6) ?F ?c ?_ ?_; (case F => k_asm); (case c => exact rfl); (all_goals (intro k9 hb9; first | (exfalso; omega) | dsimp only [List.cons_append, List.nil_append, List.append_nil] | skip)))
  k_with "execs cons Assign" => ((fail_if_success (with_reducible show wpAny _ _ (execs (Stmt.Assign _ (Expr.ListComp _ _ _ _) _ :: _) _) _ _ _)); refine' flat_asg ?_ ?s; (case s => exact rfl); intro K9 hK9)
  k_with "execs cons Assign" => k_dflt (refine' asg_ev (n := 6) ?F ?N ?L ?x ?s ?e ?_; (case F => k_asm); (case N => k_asm); (case L => exact rfl); (case x => exact rfl); (case s => exact rfl); (case e => exact rfl); intro t9 k9 h' m9 F' N'; (try dsimp only); (try k_sweep))
  k_with "storeName" => k_dflt (refine' store_ev ?F ?N ?L ?x ?_; (case F => k_asm); (case N => k_asm); (case L => exact rfl); (case x => exact rfl); intro h' k9 m9 F' N'; (try dsimp only); (try k_sweep))
  k_with "execs cons Return" => (refine flat_ret ?_; intro K9 hK9)
  k_with "execs cons Return" => k_dflt (refine' ret_ev (n := 6) ?F ?e ?_; (case F => k_asm); (case e => exact rfl); intro t9 k9; (try dsimp only))
  k_with "execs cons Expr" => (refine' flat_expr ?_ ?i ?s; (case i => exact rfl); (case s => exact rfl); intro K9 hK9)
  k_with "execs cons Raise" => refine flat_raise ?_
  k_with "execs cons Continue" => refine flat_cont ?_
  k_with "spliced" => plain_pass; k_dflt (refine' args_ev (n := 6) ?F ?e ?_; (case F => k_asm); (case e => exact rfl); intro t9 k9; (try dsimp only [vals, List.cons_append, List.nil_append]))
  k_with "eval Call Name" => plain_pass; k_dflt (refine' callN_ev (n := 6) ?F ?X ?T ?f ?v ?w ?g ?e ?_ ?a ?b ?d; (case F => k_asm); (case e => exact rfl); (case b => exact rfl); (case X => k_asm); (case T => k_asm); (case a => exact rfl); (case f => k_is); (case v => boot_fast); (case w => exact rfl); (case g => decide); (case d => decide); intro t9 k9; (try dsimp only [vals]))
  k_with "eval Call Name" => plain_pass; k_dflt (refine' call_ev (n := 6) ?F ?X ?T ?f ?k ?e ?_ ?a ?b ?d; (case F => k_asm); (case e => exact rfl); (case b => exact rfl); (case X => k_asm); (case T => k_asm); (case a => exact rfl); (case f => k_is); (case k => k_is); (case d => decide); intro t9 k9; (try dsimp only [vals]))
  k_with "call type:type" => ((with_reducible show wpAny _ _ (call _ [Value.bytes _ _]) _ _ _); refine call_type_of (Tx := "bytes") rfl (by decide +kernel) ?_)
  k_with "call ref" => ((with_reducible show wpAny _ _ (call (Value.ref 78) [Value.bytes _ _]) _ _ _); (refine' buffer _ _ _ _ _ _ _ _ _ _ _ _ _ _ _ _ _ _ _ _ ?k1 ?k2 ?k3 ?k4 ?k5 ?kK ?kd ?ku ?_; (case k1 => k_asm); (case k2 => k_asm); (case k3 => k_asm); (case k4 => k_asm); (case k5 => k_asm); (case kK => first | exact rfl | assumption); (case kd => first | (dsimp only [Around.deeper]; omega) | ktr_room); (case ku => first | (dsimp only [Around.deeper]; omega) | ktr_units); intro t9 h9 tk9 F9 N9; (try dsimp only); (try k_fold)))
  k_with "call ref" => ((with_reducible show wpAny _ _ (call (Value.ref 108) [Value.bytes _ _] _) _ _ _); (refine' b2a _ _ (by assumption) _ _ _ _ _ _ _ _ _ _ _ _ _ _ _ _ _ _ ?k1 ?k2 ?k3 ?k4 ?k5 ?kK ?kd ?ku ?_; (case k1 => k_asm); (case k2 => k_asm); (case k3 => k_asm); (case k4 => k_asm); (case k5 => k_asm); (case kK => first | exact rfl | assumption); (case kd => first | (dsimp only [Around.deeper]; omega) | ktr_room); (case ku => first | (dsimp only [Around.deeper]; omega) | ktr_units); intro t9 h9 tk9 F9 N9; (try dsimp only); (try k_fold)))
  k_with "getMethod bytes" => first | (with_reducible refine method_translate ?_) | (with_reducible refine method_upper ?_) | (with_reducible refine method_hex ?_)
  k_with "call builtin:bytes.translate" => (refine' translate ?k1 ?k2 ?_; (case k1 => first | exact mkT_size _ _ | decide +kernel | rfl); (case k2 => first | ((try simp only [byteArr_size]); omega) | assumption); intro t9 k9; (try dsimp only))
  k_with "call builtin:bytes.upper" => (refine' upper ?k2 ?_; (case k2 => first | ((try simp only [byteArr_size, Array.size_map, hexCps_size]); omega) | assumption); intro t9 k9; (try dsimp only))
  k_with "call builtin:bytes.hex" => (refine' hex ?k2 ?_; (case k2 => omega); intro t9 k9; (try dsimp only))
  k_with "call builtin:str.encode" => (refine' encode ?k1 ?k2 ?_; (case k1 => exact hexCps_lt _); (case k2 => (show Array.size (hexCps _) ≤ _; rw [hexCps_size]; omega)); intro t9 k9; (try dsimp only))
  k_with "getMethod str" => (with_reducible refine method_encode ?_)
  k_with "getMethod type:bytes" => (refine' method_type ?F ?X ?m (by decide +kernel) ?e ?h ?_; (case F => k_asm); (case X => k_asm); (case m => first | rfl | kernel_rfl); (case e => k_dflt k_is); (case h => k_handed))
  k_with "call builtin:bytes.maketrans" => (refine' maketrans ?k1 ?_; (case k1 => first | exact Eq.symm (by assumption) | assumption | (simp only [List.size_toArray, List.length_cons, List.length_nil]; omega)); intro t9 k9; (try dsimp only))
  k_with "call ref" => ((with_reducible show wpAny _ _ (call (Value.ref 139) [Value.bytes _ _]) _ _ _); (refine' b64enc _ _ (by assumption) _ _ _ _ _ _ _ _ _ _ _ _ _ _ _ _ _ _ ?k1 ?k2 ?k3 ?k4 ?k5 ?kK ?kd ?ku ?_; (case k1 => k_asm); (case k2 => k_asm); (case k3 => k_asm); (case k4 => k_asm); (case k5 => k_asm); (case kK => first | exact rfl | assumption); (case kd => first | (dsimp only [Around.deeper]; omega) | ktr_room); (case ku => first | (dsimp only [Around.deeper]; omega) | ktr_units); intro t9 h9 tk9 F9 N9; (try dsimp only); (try k_fold)))
  k_steps
  exact retV _ hret (by k_asm) (by k_asm) (fun p hp => hp) (congrArg (fun T => Value.bytes (trans T (byteArr (encOut (KBw.bInts b)))) _) (by rw [mk_two]; exact congrArg List.toArray (by decide +kernel)))
theorem b2ahex (b : Array UInt8) (tb : Tok) (hb : b.size ≤ 12) : Claim prog w p loose mean mg mb 117 2 [.bytes b tb] (fun t => .bytes ((hexCps b).map (·.toUInt8)) t) := by
  dsimp only [Claim, RetV]
  intros
  rename_i hret
  refine wpAny_call ?_
  (refine' code_def ?k1 ?k2 ?k3 ?k4 ?k5 ?kA ?kF ?kK ?k6 ?k7 ?k8 ?k9 ?kB ?_ ?c2 ?c3 ?c4 ?c5; (case kA => exact rfl); (case kF => exact rfl); (case kK => assumption); (case k1 => k_asm); (case k2 => k_asm); (case k3 => k_asm); (case k4 => k_asm); (case k5 => k_asm); (case k6 => k_is); (case k7 => k_is); (case k8 => first | (dsimp only [ktrTop]; omega) | ktr_room); (case k9 => first | exact BindsTo.of_eq rfl | exact binds_K (by k_in) rfl (by k_is) rfl rfl rfl); (case c5 => decide); (case kB => exact locs rfl); (case c2 => exact rfl); (case c3 => exact rfl); (case c4 => exact rfl); k_whole; intro g1 L1 h1 FG1 F1 N1 B1 X1 T1; (try dsimp only); (try k_lift B1); (try k_fold))
  (refine hide_def (P := LeaveK _ _ _ _ _) ?_; intro K9 X9 hR9; (try dsimp only))
  (refine let_around ?_; intro A9)
  k_with_none
  k_with "exec If" => (with_reducible refine wpAny_If ?_)
  k_with "isTrue Compare" => ((with_reducible show wpAny _ _ (isTrue (Expr.Compare (Expr.Name _ _) [CmpOp.Eq] [Expr.Constant (Const.int _) _ _] _) _ _) _ _ _); k_dflt (refine' test_eq ?F ?v ?_ ?a ?b ?d; (case F => k_asm); (case a => rfl); (case b => rfl); (case d => decide); (case v => rfl)); (try dsimp only))
  k_with "isTrue Compare" => ((with_reducible show wpAny _ _ (isTrue (Expr.Compare (Expr.Name _ _) [CmpOp.NotEq] [Expr.Constant (Const.int _) _ _] _) _ _) _ _ _); k_dflt (refine' test_ne ?F ?v ?_ ?a ?b ?d; (case F => k_asm); (case a => rfl); (case b => rfl); (case d => decide); (case v => rfl)); (try dsimp only))
  k_with "isTrue Compare" => ((with_reducible show wpAny _ _ (isTrue (Expr.Compare (Expr.Name _ _) [CmpOp.Lt] [Expr.Constant (Const.int _) _ _] _) _ _) _ _ _); k_dflt (refine' test_lt ?F ?v ?_ ?a ?b ?d; (case F => k_asm); (case a => rfl); (case b => rfl); (case d => decide); (case v => rfl)); (try dsimp only))
  k_with "isTrue Compare" => ((with_reducible show wpAny _ _ (isTrue (Expr.Compare (Expr.Name _ _) [CmpOp.LtE] [Expr.Constant (Const.int _) _ _] _) _ _) _ _ _); k_dflt (refine' test_le ?F ?v ?_ ?a ?b ?d; (case F => k_asm); (case a => rfl); (case b => rfl); (case d => decide); (case v => rfl)); (try dsimp only))
  k_with "isTrue Compare" => ((with_reducible show wpAny _ _ (isTrue (Expr.Compare (Expr.Name _ _) [CmpOp.GtE] [Expr.Constant (Const.int _) _ _] _) _ _) _ _ _); k_dflt (refine' test_ge ?F ?v ?_ ?a ?b ?d; (case F => k_asm); (case a => rfl); (case b => rfl); (case d => decide); (case v => rfl)); (try dsimp only))
  k_with "Thn" => first | (refine hK9 _ _ ?_; (try clear hK9); (try dsimp only)) | (refine hK9 _ ?_; (try clear hK9); (try dsimp only))
  k_with "Rtn" => (refine hR9 _ _ ?_)
  k_with "Trn" => (refine hN9 _ _ ?_; (try dsimp only))
  k_with "ThB" => refine thb_ite ?_
  k_with "ThB true" => (refine hT9 _ ?_; (try clear hT9 hF9); (try dsimp only [List.cons_append, List.nil_append, List.append_nil]))
  k_with "ThB false" => (refine hF9 _ ?_; (try clear hT9 hF9); (try dsimp only [List.cons_append, List.nil_append, List.append_nil]))
  k_with "execs cons If" => (refine flat_if ?_; intro K9 hT9 hF9)
  k_with "execs cons If" => k_dflt ((first | (refine' if_pb (lit := false) (n := 6) ?F ?c ?_ ?_; (case F => k_asm); (case c => exact rfl)) | (refine' if_p (lit := false) (n := 6) ?F ?c ?_ ?_; (case F => k_asm); (case c => exact rfl))); (all_goals (intro k9 hb9; first | (exfalso; omega) | dsimp only [List.cons_append, List.nil_append, List.append_nil] | skip)))
  k_with "execs cons If" => k_dflt ((first | (refine' if_T (lit := true) (n := 6) ?F ?c ?_; (case F => k_asm); (case c => exact rfl)) | (refine' if_F (lit := true) (n := 6) ?F ?c ?_; (case F => k_asm); (case c => exact rfl))); intro k9; (try dsimp only [List.cons_append, List.nil_append, List.append_nil]))
  k_with "execs cons If" => k_dflt (refine' if_p (lit := true) (n := 6) ?F ?c ?_ ?_; (case F => k_asm); (case c => exact rfl); (all_goals (intro k9 hb9; first | (exfalso; omega) | dsimp only [List.cons_append, List.nil_append, List.append_nil] | skip)))
  k_with "execs cons Assign" => ((fail_if_success (with_reducible show wpAny _ _ (execs (Stmt.Assign _ (Expr.ListComp _ _ _ _) _ :: _) _) _ _ _)); refine' flat_asg ?_ ?s; (case s => exact rfl); intro K9 hK9)
  k_with "execs cons Assign" => k_dflt (refine' asg_ev (n := 6) ?F ?N ?L ?x ?s ?e ?_; (case F => k_asm); (case N => k_asm); (case L => exact rfl); (case x => exact rfl); (case s => exact rfl); (case e => exact rfl); intro t9 k9 h' m9 F' N'; (try dsimp only); (try k_sweep))
  k_with "storeName" => k_dflt (refine' store_ev ?F ?N ?L ?x ?_; (case F => k_asm); (case N => k_asm); (case L => exact rfl); (case x => exact rfl); intro h' k9 m9 F' N'; (try dsimp only); (try k_sweep))
  k_with "execs cons Return" => (refine flat_ret ?_; intro K9 hK9)
  k_with "execs cons Return" => k_dflt (refine' ret_ev (n := 6) ?F ?e ?_; (case F => k_asm); (case e => exact rfl); intro t9 k9; (try dsimp only))
  k_with "execs cons Expr" => (refine' flat_expr ?_ ?i ?s; (case i => exact rfl); (case s => exact rfl); intro K9 hK9)
  k_with "execs cons Raise" => refine flat_raise ?_
  k_with "execs cons Continue" => refine flat_cont ?_
  k_with "spliced" => plain_pass; k_dflt (refine' args_ev (n := 6) ?F ?e ?_; (case F => k_asm); (case e => exact rfl); intro t9 k9; (try dsimp only [vals, List.cons_append, List.nil_append]))
  k_with "eval Call Name" => plain_pass; k_dflt (refine' callN_ev (n := 6) ?F ?X ?T ?f ?v ?w ?g ?e ?_ ?a ?b ?d; (case F => k_asm); (case e => exact rfl); (case b => exact rfl); (case X => k_asm); (case T => k_asm); (case a => exact rfl); (case f => k_is); (case v => boot_fast); (case w => exact rfl); (case g => decide); (case d => decide); intro t9 k9; (try dsimp only [vals]))
  k_with "eval Call Name" => plain_pass; k_dflt (refine' call_ev (n := 6) ?F ?X ?T ?f ?k ?e ?_ ?a ?b ?d; (case F => k_asm); (case e => exact rfl); (case b => exact rfl); (case X => k_asm); (case T => k_asm); (case a => exact rfl); (case f => k_is); (case k => k_is); (case d => decide); intro t9 k9; (try dsimp only [vals]))
  k_with "call type:type" => ((with_reducible show wpAny _ _ (call _ [Value.bytes _ _]) _ _ _); refine call_type_of (Tx := "bytes") rfl (by decide +kernel) ?_)
  k_with "call ref" => ((with_reducible show wpAny _ _ (call (Value.ref 78) [Value.bytes _ _]) _ _ _); (refine' buffer _ _ _ _ _ _ _ _ _ _ _ _ _ _ _ _ _ _ _ _ ?k1 ?k2 ?k3 ?k4 ?k5 ?kK ?kd ?ku ?_; (case k1 => k_asm); (case k2 => k_asm); (case k3 => k_asm); (case k4 => k_asm); (case k5 => k_asm); (case kK => first | exact rfl | assumption); (case kd => first | (dsimp only [Around.deeper]; omega) | ktr_room); (case ku => first | (dsimp only [Around.deeper]; omega) | ktr_units); intro t9 h9 tk9 F9 N9; (try dsimp only); (try k_fold)))
  k_with "call ref" => ((with_reducible show wpAny _ _ (call (Value.ref 108) [Value.bytes _ _] _) _ _ _); (refine' b2a _ _ (by assumption) _ _ _ _ _ _ _ _ _ _ _ _ _ _ _ _ _ _ ?k1 ?k2 ?k3 ?k4 ?k5 ?kK ?kd ?ku ?_; (case k1 => k_asm); (case k2 => k_asm); (case k3 => k_asm); (case k4 => k_asm); (case k5 => k_asm); (case kK => first | exact rfl | assumption); (case kd => first | (dsimp only [Around.deeper]; omega) | ktr_room); (case ku => first | (dsimp only [Around.deeper]; omega) | ktr_units); intro t9 h9 tk9 F9 N9; (try dsimp only); (try k_fold)))
  k_with "getMethod bytes" => first | (with_reducible refine method_translate ?_) | (with_reducible refine method_upper ?_) | (with_reducible refine method_hex ?_)
  k_with "call builtin:bytes.translate" => (refine' translate ?k1 ?k2 ?_; (case k1 => first | exact mkT_size _ _ | decide +kernel | rfl); (case k2 => first | ((try simp only [byteArr_size]); omega) | assumption); intro t9 k9; (try dsimp only))
  k_with "call builtin:bytes.upper" => (refine' upper ?k2 ?_; (case k2 => first | ((try simp only [byteArr_size, Array.size_map, hexCps_size]); omega) | assumption); intro t9 k9; (try dsimp only))
  k_with "call builtin:bytes.hex" => (refine' hex ?k2 ?_; (case k2 => omega); intro t9 k9; (try dsimp only))
  k_with "call builtin:str.encode" => (refine' encode ?k1 ?k2 ?_; (case k1 => exact hexCps_lt _); (case k2 => (show Array.size (hexCps _) ≤ _; rw [hexCps_size]; omega)); intro t9 k9; (try dsimp only))
  k_with "getMethod str" => (with_reducible refine method_encode ?_)
  k_with "getMethod type:bytes" => (refine' method_type ?F ?X ?m (by decide +kernel) ?e ?h ?_; (case F => k_asm); (case X => k_asm); (case m => first | rfl | kernel_rfl); (case e => k_dflt k_is); (case h => k_handed))
  k_with "call builtin:bytes.maketrans" => (refine' maketrans ?k1 ?_; (case k1 => first | exact Eq.symm (by assumption) | assumption | (simp only [List.size_toArray, List.length_cons, List.length_nil]; omega)); intro t9 k9; (try dsimp only))
  k_with "call ref" => ((with_reducible show wpAny _ _ (call (Value.ref 139) [Value.bytes _ _]) _ _ _); (refine' b64enc _ _ (by assumption) _ _ _ _ _ _ _ _ _ _ _ _ _ _ _ _ _ _ ?k1 ?k2 ?k3 ?k4 ?k5 ?kK ?kd ?ku ?_; (case k1 => k_asm); (case k2 => k_asm); (case k3 => k_asm); (case k4 => k_asm); (case k5 => k_asm); (case kK => first | exact rfl | assumption); (case kd => first | (dsimp only [Around.deeper]; omega) | ktr_room); (case ku => first | (dsimp only [Around.deeper]; omega) | ktr_units); intro t9 h9 tk9 F9 N9; (try dsimp only); (try k_fold)))
  k_steps
  exact retV _ hret (by k_asm) (by k_asm) (fun p hp => hp) rfl
theorem b16enc (b : Array UInt8) (tb : Tok) (hb : b.size ≤ 12) : Claim prog w p loose mean mg mb 182 3 [.bytes b tb] (fun t => .bytes (upped ((hexCps b).map (·.toUInt8))) t) := by
  dsimp only [Claim, RetV]
  intros
  rename_i hret
  refine wpAny_call ?_
  (refine' code_def ?k1 ?k2 ?k3 ?k4 ?k5 ?kA ?kF ?kK ?k6 ?k7 ?k8 ?k9 ?kB ?_ ?c2 ?c3 ?c4 ?c5; (case kA => exact rfl); (case kF => exact rfl); (case kK => assumption); (case k1 => k_asm); (case k2 => k_asm); (case k3 => k_asm); (case k4 => k_asm); (case k5 => k_asm); (case k6 => k_is); (case k7 => k_is); (case k8 => first | (dsimp only [ktrTop]; omega) | ktr_room); (case k9 => first | exact BindsTo.of_eq rfl | exact binds_K (by k_in) rfl (by k_is) rfl rfl rfl); (case c5 => decide); (case kB => exact locs rfl); (case c2 => exact rfl); (case c3 => exact rfl); (case c4 => exact rfl); k_whole; intro g1 L1 h1 FG1 F1 N1 B1 X1 T1; (try dsimp only); (try k_lift B1); (try k_fold))
  (refine hide_def (P := LeaveK _ _ _ _ _) ?_; intro K9 X9 hR9; (try dsimp only))
  (refine let_around ?_; intro A9)
  k_with_none
  k_with "exec If" => (with_reducible refine wpAny_If ?_)
  k_with "isTrue Compare" => ((with_reducible show wpAny _ _ (isTrue (Expr.Compare (Expr.Name _ _) [CmpOp.Eq] [Expr.Constant (Const.int _) _ _] _) _ _) _ _ _); k_dflt (refine' test_eq ?F ?v ?_ ?a ?b ?d; (case F => k_asm); (case a => rfl); (case b => rfl); (case d => decide); (case v => rfl)); (try dsimp only))
  k_with "isTrue Compare" => ((with_reducible show wpAny _ _ (isTrue (Expr.Compare (Expr.Name _ _) [CmpOp.NotEq] [Expr.Constant (Const.int _) _ _] _) _ _) _ _ _); k_dflt (refine' test_ne ?F ?v ?_ ?a ?b ?d; (case F => k_asm); (case a => rfl); (case b => rfl); (case d => decide); (case v => rfl)); (try dsimp only))
  k_with "isTrue Compare" => ((with_reducible show wpAny _ _ (isTrue (Expr.Compare (Expr.Name _ _) [CmpOp.Lt] [Expr.Constant (Const.int _) _ _] _) _ _) _ _ _); k_dflt (refine' test_lt ?F ?v ?_ ?a ?b ?d; (case F => k_asm); (case a => rfl); (case b => rfl); (case d => decide); (case v => rfl)); (try dsimp only))
  k_with "isTrue Compare" => ((with_reducible show wpAny _ _ (isTrue (Expr.Compare (Expr.Name _ _) [CmpOp.LtE] [Expr.Constant (Const.int _) _ _] _) _ _) _ _ _); k_dflt (refine' test_le ?F ?v ?_ ?a ?b ?d; (case F => k_asm); (case a => rfl); (case b => rfl); (case d => decide); (case v => rfl)); (try dsimp only))
  k_with "isTrue Compare" => ((with_reducible show wpAny _ _ (isTrue (Expr.Compare (Expr.Name _ _) [CmpOp.GtE] [Expr.Constant (Const.int _) _ _] _) _ _) _ _ _); k_dflt (refine' test_ge ?F ?v ?_ ?a ?b ?d; (case F => k_asm); (case a => rfl); (case b => rfl); (case d => decide); (case v => rfl)); (try dsimp only))
  k_with "Thn" => first | (refine hK9 _ _ ?_; (try clear hK9); (try dsimp only)) | (refine hK9 _ ?_; (try clear hK9); (try dsimp only))
  k_with "Rtn" => (refine hR9 _ _ ?_)
  k_with "Trn" => (refine hN9 _ _ ?_; (try dsimp only))
  k_with "ThB" => refine thb_ite ?_
  k_with "ThB true" => (refine hT9 _ ?_; (try clear hT9 hF9); (try dsimp only [List.cons_append, List.nil_append, List.append_nil]))
  k_with "ThB false" => (refine hF9 _ ?_; (try clear hT9 hF9); (try dsimp only [List.cons_append, List.nil_append, List.append_nil]))
  k_with "execs cons If" => (refine flat_if ?_; intro K9 hT9 hF9)
  k_with "execs cons If" => k_dflt ((first | (refine' if_pb (lit := false) (n := 6) ?F ?c ?_ ?_; (case F => k_asm); (case c => exact rfl)) | (refine' if_p (lit := false) (n := 6) ?F ?c ?_ ?_; (case F => k_asm); (case c => exact rfl))); (all_goals (intro k9 hb9; first | (exfalso; omega) | dsimp only [List.cons_append, List.nil_append, List.append_nil] | skip)))
  k_with "execs cons If" => k_dflt ((first | (refine' if_T (lit := true) (n := 6) ?F ?c ?_; (case F => k_asm); (case c => exact rfl)) | (refine' if_F (lit := true) (n := 6) ?F ?c ?_; (case F => k_asm); (case c => exact rfl))); intro k9; (try dsimp only [List.cons_append, List.nil_append, List.append_nil]))
  k_with "execs cons If" => k_dflt (refine' if_p (lit := true) (n := 6) ?F ?c ?_ ?_; (case F => k_asm); (case c => exact rfl); (all_goals (intro k9 hb9; first | (exfalso; omega) | dsimp only [List.cons_append, List.nil_append, List.append_nil] | skip)))
  k_with "execs cons Assign" => ((fail_if_success (with_reducible show wpAny _ _ (execs (Stmt.Assign _ (Expr.ListComp _ _ _ _) _ :: _) _) _ _ _)); refine' flat_asg ?_ ?s; (case s => exact rfl); intro K9 hK9)
  k_with "execs cons Assign" => k_dflt (refine' asg_ev (n := 6) ?F ?N ?L ?x ?s ?e ?_; (case F => k_asm); (case N => k_asm); (case L => exact rfl); (case x => exact rfl); (case s => exact rfl); (case e => exact rfl); intro t9 k9 h' m9 F' N'; (try dsimp only); (try k_sweep))
  k_with "storeName" => k_dflt (refine' store_ev ?F ?N ?L ?x ?_; (case F => k_asm); (case N => k_asm); (case L => exact rfl); (case x => exact rfl); intro h' k9 m9 F' N'; (try dsimp only); (try k_sweep))
  k_with "execs cons Return" => (refine flat_ret ?_; intro K9 hK9)
  k_with "execs cons Return" => k_dflt (refine' ret_ev (n := 6) ?F ?e ?_; (case F => k_asm); (case e => exact rfl); intro t9 k9; (try dsimp only))
  k_with "execs cons Expr" => (refine' flat_expr ?_ ?i ?s; (case i => exact rfl); (case s => exact rfl); intro K9 hK9)
  k_with "execs cons Raise" => refine flat_raise ?_
  k_with "execs cons Continue" => refine flat_cont ?_
  k_with "spliced" => plain_pass; k_dflt (refine' args_ev (n := 6) ?F ?e ?_; (case F => k_asm); (case e => exact rfl); intro t9 k9; (try dsimp only [vals, List.cons_append, List.nil_append]))
  k_with "eval Call Name" => plain_pass; k_dflt (refine' callN_ev (n := 6) ?F ?X ?T ?f ?v ?w ?g ?e ?_ ?a ?b ?d; (case F => k_asm); (case e => exact rfl); (case b => exact rfl); (case X => k_asm); (case T => k_asm); (case a => exact rfl); (case f => k_is); (case v => boot_fast); (case w => exact rfl); (case g => decide); (case d => decide); intro t9 k9; (try dsimp only [vals]))
  k_with "eval Call Name" => plain_pass; k_dflt (refine' call_ev (n := 6) ?F ?X ?T ?f ?k ?e ?_ ?a ?b ?d; (case F => k_asm); (case e => exact rfl); (case b => exact rfl); (case X => k_asm); (case T => k_asm); (case a => exact rfl); (case f => k_is); (case k => k_is); (case d => decide); intro t9 k9; (try dsimp only [vals]))
  k_with "call type:type" => ((with_reducible show wpAny _ _ (call _ [Value.bytes _ _]) _ _ _); refine call_type_of (Tx := "bytes") rfl (by decide +kernel) ?_)
  k_with "call ref" => ((with_reducible show wpAny _ _ (call (Value.ref 78) [Value.bytes _ _]) _ _ _); (refine' buffer _ _ _ _ _ _ _ _ _ _ _ _ _ _ _ _ _ _ _ _ ?k1 ?k2 ?k3 ?k4 ?k5 ?kK ?kd ?ku ?_; (case k1 => k_asm); (case k2 => k_asm); (case k3 => k_asm); (case k4 => k_asm); (case k5 => k_asm); (case kK => first | exact rfl | assumption); (case kd => first | (dsimp only [Around.deeper]; omega) | ktr_room); (case ku => first | (dsimp only [Around.deeper]; omega) | ktr_units); intro t9 h9 tk9 F9 N9; (try dsimp only); (try k_fold)))
  k_with "call ref" => ((with_reducible show wpAny _ _ (call (Value.ref 108) [Value.bytes _ _] _) _ _ _); (refine' b2a _ _ (by assumption) _ _ _ _ _ _ _ _ _ _ _ _ _ _ _ _ _ _ ?k1 ?k2 ?k3 ?k4 ?k5 ?kK ?kd ?ku ?_; (case k1 => k_asm); (case k2 => k_asm); (case k3 => k_asm); (case k4 => k_asm); (case k5 => k_asm); (case kK => first | exact rfl | assumption); (case kd => first | (dsimp only [Around.deeper]; omega) | ktr_room); (case ku => first | (dsimp only [Around.deeper]; omega) | ktr_units); intro t9 h9 tk9 F9 N9; (try dsimp only); (try k_fold)))
  k_with "getMethod bytes" => first | (with_reducible refine method_translate ?_) | (with_reducible refine method_upper ?_) | (with_reducible refine method_hex ?_)
  k_with "call builtin:bytes.translate" => (refine' translate ?k1 ?k2 ?_; (case k1 => first | exact mkT_size _ _ | decide +kernel | rfl); (case k2 => first | ((try simp only [byteArr_size]); omega) | assumption); intro t9 k9; (try dsimp only))
  k_with "call builtin:bytes.upper" => (refine' upper ?k2 ?_; (case k2 => first | ((try simp only [byteArr_size, Array.size_map, hexCps_size]); omega) | assumption); intro t9 k9; (try dsimp only))
  k_with "call builtin:bytes.hex" => (refine' hex ?k2 ?_; (case k2 => omega); intro t9 k9; (try dsimp only))
  k_with "call builtin:str.encode" => (refine' encode ?k1 ?k2 ?_; (case k1 => exact hexCps_lt _); (case k2 => (show Array.size (hexCps _) ≤ _; rw [hexCps_size]; omega)); intro t9 k9; (try dsimp only))
  k_with "getMethod str" => (with_reducible refine method_encode ?_)
  k_with "getMethod type:bytes" => (refine' method_type ?F ?X ?m (by decide +kernel) ?e ?h ?_; (case F => k_asm); (case X => k_asm); (case m => first | rfl | kernel_rfl); (case e => k_dflt k_is); (case h => k_handed))
  k_with "call builtin:bytes.maketrans" => (refine' maketrans ?k1 ?_; (case k1 => first | exact Eq.symm (by assumption) | assumption | (simp only [List.size_toArray, List.length_cons, List.length_nil]; omega)); intro t9 k9; (try dsimp only))
  k_with "call ref" => ((with_reducible show wpAny _ _ (call (Value.ref 139) [Value.bytes _ _]) _ _ _); (refine' b64enc _ _ (by assumption) _ _ _ _ _ _ _ _ _ _ _ _ _ _ _ _ _ _ ?k1 ?k2 ?k3 ?k4 ?k5 ?kK ?kd ?ku ?_; (case k1 => k_asm); (case k2 => k_asm); (case k3 => k_asm); (case k4 => k_asm); (case k5 => k_asm); (case kK => first | exact rfl | assumption); (case kd => first | (dsimp only [Around.deeper]; omega) | ktr_room); (case ku => first | (dsimp only [Around.deeper]; omega) | ktr_units); intro t9 h9 tk9 F9 N9; (try dsimp only); (try k_fold)))
  k_with "call ref" => ((with_reducible show wpAny _ _ (call (Value.ref 117) [Value.bytes _ _]) _ _ _); (refine' b2ahex _ _ (by assumption) _ _ _ _ _ _ _ _ _ _ _ _ _ _ _ _ _ _ ?k1 ?k2 ?k3 ?k4 ?k5 ?kK ?kd ?ku ?_; (case k1 => k_asm); (case k2 => k_asm); (case k3 => k_asm); (case k4 => k_asm); (case k5 => k_asm); (case kK => first | exact rfl | assumption); (case kd => first | (dsimp only [Around.deeper]; omega) | ktr_room); (case ku => first | (dsimp only [Around.deeper]; omega) | ktr_units); intro t9 h9 tk9 F9 N9; (try dsimp only); (try k_fold)))
  k_steps
  exact retV _ hret (by k_asm) (by k_asm) (fun p hp => hp) rfl
end
end

theorem reset12 : True := by
  w_top off
  k_with_none
  trivial
section
abbrev RaiseK (base h₀ : Heap) (L : Addr) (m : Str → Option Value) (env : Env) (outer : List Env) (news : List (Addr × Obj)) (s : Shared) (E : Value → Shared → Prop) : Prop :=
  ∀ (e t : Addr) (vs : List Value) (G h' : Heap) (tk' : Nat), Fr h₀ L G m → RaisedS base G (env :: outer) e (.ref 61) t vs news h' → G.UpToSlots h' → E (.ref e) { s with heap := h', toks := tk' }
abbrev ClaimR (prog : Program) (w : World) (p : Program) (loose : List Str) (mean : ExcName → Option Value) (mg mb : Str → Option Value) (f : Addr) (need : Nat) (vs : List Value) (R : Option (Tok → Value)) (kw : List (Str × Value) := []) : Prop :=
  ∀ (dp un : Nat) (gd : Option (List Code)) (cn : Str) (cs : Scope) (a : Addr) (ccd : Value) (outer : List Env) (A₀ : Around) (base h₀ : Heap) (L : Addr) (m : Str → Option Value) (news : List (Addr × Obj)) (s : Shared) (Q E : Value → Shared → Prop),
    Below A₀ base outer h₀ → Fr h₀ L s.heap m → (hd.heap_39 w.params).In h₀ → News h₀ L s.heap news → Top p loose mean mg mb h₀ → cs.kind = .function →
    dp + need < recursionLimit → un + 8 * need < cLine → (∀ r, R = some r → RetV h₀ L m news s Q r) → (R = none → RaiseK base h₀ L m (envOf cn cs L a ccd) outer news s E) →
      wpAny (model prog w) (ktrTop dp un gd cn cs L a ccd [] outer) (call (.ref f) vs kw) Q E s
abbrev DecSt := List Int × Int × Int × Int
def decStep (strict : Bool) (st : DecSt) (n : Int) : Option DecSt :=
  if n = 61 then
    if 2 ≤ st.2.1 ∧ st.2.1 + (st.2.2.2 + 1) ≤ 4 then some (st.1, st.2.1, st.2.2.1, st.2.2.2 + 1)
    else if strict = true then none else some (st.1, st.2.1, st.2.2.1, st.2.2.2 + 1)
  else if 64 ≤ b64val n then (if strict = true then none else some st)
  else if st.2.2.2 ≠ 0 ∧ strict = true then none
  else if st.2.1 = 0 then some (st.1, 1, b64val n, 0)
  else if st.2.1 = 1 then some (st.1 ++ [st.2.2.1 * 4 + b64val n / 16], 2, b64val n % 16, 0)
  else if st.2.1 = 2 then some (st.1 ++ [st.2.2.1 * 16 + b64val n / 4], 3, b64val n % 4, 0)
  else some (st.1 ++ [st.2.2.1 * 64 + b64val n], 0, 0, 0)
def decFold (strict : Bool) (pre : List Int) : Option DecSt := pre.foldl (fun st n => st.bind (decStep strict · n)) (some ([], 0, 0, 0))
def decFin (st : DecSt) : Option (List Int) := if st.2.1 = 1 then none else if st.2.1 ≠ 0 ∧ st.2.1 + st.2.2.2 < 4 then none else some st.1
def decOut (strict : Bool) (bs : List Int) : Option (List Int) := (decFold strict bs).bind decFin
def DecInv (strict : Bool) (pre out as : List Int) : Prop := ∃ q l p i, as = [q, l, p, i] ∧ decFold strict pre = some (out, q, l, p) ∧ 0 ≤ i ∧ i ≤ (pre.length : Int)
theorem DecInv.start (strict : Bool) : DecInv strict [] [] [0, 0, 0, 0] := ⟨0, 0, 0, 0, rfl, rfl, by decide, by decide⟩
theorem b64val_in (c : Int) : 0 ≤ b64val c ∧ b64val c ≤ 64 := by
  unfold b64val
  (repeat' split) <;> omega
structure DecOk (len : Nat) (st : DecSt) : Prop where
  q : st.2.1 = 0 ∨ st.2.1 = 1 ∨ st.2.1 = 2 ∨ st.2.1 = 3
  l0 : 0 ≤ st.2.2.1
  l1 : st.2.1 = 1 → st.2.2.1 < 64
  l2 : st.2.1 = 2 → st.2.2.1 < 16
  l3 : st.2.1 = 3 → st.2.2.1 < 4
  lb : st.2.2.1 < 64
  p0 : 0 ≤ st.2.2.2
  p1 : st.2.2.2 ≤ (len : Int)
  r : ∀ v ∈ st.1, 0 ≤ v ∧ v < 256
  n : st.1.length ≤ len
theorem d16 {x : Int} (h0 : 0 ≤ x) (h1 : x < 64) : 0 ≤ x % 16 ∧ x % 16 < 16 ∧ 0 ≤ x / 16 ∧ x / 16 < 4 := by omega
theorem d4 {x : Int} (h0 : 0 ≤ x) (h1 : x < 64) : 0 ≤ x % 4 ∧ x % 4 < 4 ∧ 0 ≤ x / 4 ∧ x / 4 < 16 := by omega
theorem DecOk.step {len : Nat} {st st' : DecSt} {strict : Bool} {n : Int} (h : DecOk len st) (e : decStep strict st n = some st') : DecOk (len + 1) st' := by
  obtain ⟨out, q, l, p⟩ := st
  obtain ⟨hq, hl0, hl1, hl2, hl3, hlb, hp0, hp1, hr, hn⟩ := h
  have hv := b64val_in n
  simp only at hq hl0 hl1 hl2 hl3 hlb hp0 hp1 hr hn
  have hp2 : p ≤ ((len + 1 : Nat) : Int) := by omega
  have hp3 : p + 1 ≤ ((len + 1 : Nat) : Int) := by omega
  have hp4 : 0 ≤ p + 1 := by omega
  have hp5 : (0 : Int) ≤ ((len + 1 : Nat) : Int) := Int.natCast_nonneg _
  have hn1 : out.length ≤ len + 1 := Nat.le_succ_of_le hn
  have hn2 : ∀ v : Int, (out ++ [v]).length ≤ len + 1 := fun v => by rw [List.length_append]; exact Nat.succ_le_succ hn
  unfold decStep at e
  simp only at e
  (repeat' split at e) <;> (try cases e)
  · exact ⟨hq, hl0, hl1, hl2, hl3, hlb, hp4, hp3, hr, hn1⟩
  · exact ⟨hq, hl0, hl1, hl2, hl3, hlb, hp4, hp3, hr, hn1⟩
  · exact ⟨hq, hl0, hl1, hl2, hl3, hlb, hp0, hp2, hr, hn1⟩
  · have hv2 : b64val n < 64 := Int.not_le.mp (by assumption)
    exact ⟨.inr (.inl rfl), hv.1, fun _ => hv2, nofun, nofun, hv2, Int.le_refl 0, hp5, hr, hn1⟩
  · have hv2 : b64val n < 64 := Int.not_le.mp (by assumption)
    have b1 := hl1 (by assumption)
    clear hq hl1 hl2 hl3 hlb hp0 hp1 hp2 hp3 hp4
    have c := d16 hv.1 hv2
    exact ⟨.inr (.inr (.inl rfl)), c.1, nofun, fun _ => c.2.1, nofun, Int.lt_trans c.2.1 (by decide), Int.le_refl 0, hp5, in_snoc hr (by omega) (by omega), hn2 _⟩
  · have hv2 : b64val n < 64 := Int.not_le.mp (by assumption)
    have b1 := hl2 (by assumption)
    clear hq hl1 hl2 hl3 hlb hp0 hp1 hp2 hp3 hp4
    have c := d4 hv.1 hv2
    exact ⟨.inr (.inr (.inr rfl)), c.1, nofun, nofun, fun _ => c.2.1, Int.lt_trans c.2.1 (by decide), Int.le_refl 0, hp5, in_snoc hr (by omega) (by omega), hn2 _⟩
  · have hv2 : b64val n < 64 := Int.not_le.mp (by assumption)
    have b1 := hl3 (by rcases hq with h | h | h | h <;> first | exact h | contradiction)
    clear hq hl1 hl2 hl3 hlb hp0 hp1 hp2 hp3 hp4
    exact ⟨.inl rfl, Int.le_refl 0, nofun, nofun, nofun, (show (0 : Int) < 64 by decide), Int.le_refl 0, hp5, in_snoc hr (by omega) (by omega), hn2 _⟩
theorem decFold_snoc (strict : Bool) (pre : List Int) (n : Int) : decFold strict (pre ++ [n]) = (decFold strict pre).bind (decStep strict · n) := by simp [decFold]
theorem decFold_none (strict : Bool) (l : List Int) : l.foldl (fun st n => st.bind (decStep strict · n)) (none : Option DecSt) = none := by
  induction l with
  | nil => rfl
  | cons n l ih => exact ih
theorem decFold_cut {strict : Bool} {pre post : List Int} (h : decFold strict pre = none) : decFold strict (pre ++ post) = none := by
  unfold decFold at *
  rw [List.foldl_append, h, decFold_none]
theorem decFold_run (strict : Bool) (l : List Int) : ∀ (k : Nat) (st₀ st : DecSt), DecOk k st₀ → l.foldl (fun st n => st.bind (decStep strict · n)) (some st₀) = some st → DecOk (k + l.length) st := by
  induction l with
  | nil => intro k st₀ st h e; cases e; exact h
  | cons n l ih =>
    intro k st₀ st h e
    rw [List.foldl_cons, Option.bind_some] at e
    cases h' : decStep strict st₀ n with
    | none => rw [h', decFold_none] at e; cases e
    | some st₁ =>
      rw [h'] at e
      have := ih (k + 1) st₁ st (h.step h') e
      rw [List.length_cons]
      rwa [Nat.add_assoc, Nat.add_comm 1] at this
theorem decFold_ok (strict : Bool) (pre : List Int) (st : DecSt) (e : decFold strict pre = some st) : DecOk pre.length st := by
  have := decFold_run strict pre 0 ([], 0, 0, 0) st ⟨.inl rfl, by decide, by decide, by decide, by decide, by decide, by decide, by decide, fun _ h => (nomatch h), by decide⟩ e
  rwa [Nat.zero_add] at this
theorem DecInv.next {strict : Bool} {pre out : List Int} {st : DecSt} {n q l p i : Int} (hD : decFold strict pre = some st) (e : decStep strict st n = some (out, q, l, p)) (h0 : 0 ≤ i) (h1 : i ≤ (pre.length : Int)) : DecInv strict (pre ++ [n]) out [q, l, p, i + 1] :=
  ⟨q, l, p, i + 1, rfl, by rw [decFold_snoc, hD]; exact e, by omega, by rw [List.length_append, List.length_singleton]; omega⟩
section
variable {strict : Bool} {out : List Int} {q l p n : Int}
theorem stepP (h : n = 61) (g : 2 ≤ q ∧ q + (p + 1) ≤ 4) : decStep strict (out, q, l, p) n = some (out, q, l, p + 1) := by
  unfold decStep
  rw [if_pos h]
  exact if_pos g
theorem stepPF (h : n = 61) (g : ¬ strict = true) : decStep strict (out, q, l, p) n = some (out, q, l, p + 1) := by
  unfold decStep
  rw [if_pos h]
  by_cases k : 2 ≤ q ∧ q + (p + 1) ≤ 4
  · exact if_pos k
  · exact (if_neg k).trans (if_neg g)
theorem stepPN (h : n = 61) (g : ¬ ¬ strict = true) (k : ¬ (2 ≤ q ∧ q + (p + 1) ≤ 4)) : decStep strict (out, q, l, p) n = none := by
  unfold decStep
  rw [if_pos h]
  exact (if_neg k).trans (if_pos (Decidable.not_not.mp g))
theorem stepB (h : ¬ n = 61) (hv : 64 ≤ b64val n) (g : strict = false) : decStep strict (out, q, l, p) n = some (out, q, l, p) := by
  unfold decStep
  rw [if_neg h, if_pos hv, if_neg (by rw [g]; exact Bool.false_ne_true)]
theorem stepBN (h : ¬ n = 61) (hv : 64 ≤ b64val n) (g : strict = true) : decStep strict (out, q, l, p) n = none := by
  unfold decStep
  rw [if_neg h, if_pos hv, if_pos g]
theorem stepA (h : ¬ n = 61) (hv : ¬ 64 ≤ b64val n) (hp : ¬ p = 0 ∧ strict = true) : decStep strict (out, q, l, p) n = none := by
  unfold decStep
  rw [if_neg h, if_neg hv]
  exact if_pos hp
theorem stepV (h : ¬ n = 61) (hv : ¬ 64 ≤ b64val n) (hp : ¬ (¬ p = 0 ∧ strict = true)) : decStep strict (out, q, l, p) n = if q = 0 then some (out, 1, b64val n, 0)
  else if q = 1 then some (out ++ [l * 4 + b64val n / 16], 2, b64val n % 16, 0)
  else if q = 2 then some (out ++ [l * 16 + b64val n / 4], 3, b64val n % 4, 0)
  else some (out ++ [l * 64 + b64val n], 0, 0, 0) := by
  unfold decStep
  rw [if_neg h, if_neg hv]
  exact if_neg hp
theorem step_0 (h : ¬ n = 61) (hv : ¬ 64 ≤ b64val n) (hp : ¬ (¬ p = 0 ∧ strict = true)) (h0 : q = 0) : decStep strict (out, q, l, p) n = some (out, 1, b64val n, 0) := (stepV h hv hp).trans (if_pos h0)
theorem step_1 (h : ¬ n = 61) (hv : ¬ 64 ≤ b64val n) (hp : ¬ (¬ p = 0 ∧ strict = true)) (h0 : ¬ q = 0) (h1 : q = 1) : decStep strict (out, q, l, p) n = some (out ++ [l * 4 + b64val n / 16], 2, b64val n % 16, 0) := (stepV h hv hp).trans ((if_neg h0).trans (if_pos h1))
theorem step_2 (h : ¬ n = 61) (hv : ¬ 64 ≤ b64val n) (hp : ¬ (¬ p = 0 ∧ strict = true)) (h0 : ¬ q = 0) (h1 : ¬ q = 1) (h2 : q = 2) : decStep strict (out, q, l, p) n = some (out ++ [l * 16 + b64val n / 4], 3, b64val n % 4, 0) := (stepV h hv hp).trans ((if_neg h0).trans ((if_neg h1).trans (if_pos h2)))
theorem step_3 (h : ¬ n = 61) (hv : ¬ 64 ≤ b64val n) (hp : ¬ (¬ p = 0 ∧ strict = true)) (h0 : ¬ q = 0) (h1 : ¬ q = 1) (h2 : ¬ q = 2) : decStep strict (out, q, l, p) n = some (out ++ [l * 64 + b64val n], 0, 0, 0) := (stepV h hv hp).trans ((if_neg h0).trans ((if_neg h1).trans (if_neg h2)))
theorem fin_1 (h : q = 1) : decFin (out, q, l, p) = none := if_pos h
theorem fin_N (h : ¬ q = 1) (g : ¬ q = 0 ∧ q + p < 4) : decFin (out, q, l, p) = none := (if_neg h).trans (if_pos g)
theorem fin_S (h : ¬ q = 1) (g : ¬ (¬ q = 0 ∧ q + p < 4)) : decFin (out, q, l, p) = some out := (if_neg h).trans (if_neg g)
end
theorem dec_cut {α : Type} {f : List Int → α} {strict : Bool} {pre post bs : List Int} {st : DecSt} {n : Int} (hD : decFold strict pre = some st) (hb : bs = pre ++ n :: post) (e : decStep strict st n = none) : (decOut strict bs).map f = none := by
  have h : decFold strict (pre ++ [n]) = none := by rw [decFold_snoc, hD]; exact e
  have h2 := decFold_cut (post := post) h
  rw [List.append_assoc] at h2
  have h3 : decFold strict bs = none := by rw [hb]; exact h2
  unfold decOut
  rw [h3]
  rfl
theorem dec_end {α : Type} {f : List Int → α} {strict : Bool} {bs : List Int} {st : DecSt} (hD : decFold strict bs = some st) (e : decFin st = none) : (decOut strict bs).map f = none := by
  unfold decOut
  rw [hD, Option.bind_some, e]
  rfl
theorem dec_ret {α : Type} {f : List Int → α} {strict : Bool} {bs out : List Int} {st : DecSt} (hD : decFold strict bs = some st) (e : decFin st = some out) : (decOut strict bs).map f = some (f out) := by
  unfold decOut
  rw [hD, Option.bind_some, e]
  rfl
theorem raisedS_drop {base G : Heap} {l : List Env} {e t : Addr} {cls : Value} {vs : List Value} {news news' : List (Addr × Obj)} {h : Heap} (R : RaisedS base G l e cls t vs news h) (hs : ∀ p ∈ news', p ∈ news) : RaisedS base G l e cls t vs news' h := by
  obtain ⟨⟨B, h1, h2, h3, h4⟩, h5⟩ := R
  exact ⟨⟨B, h1, h2, fun q hq => h3 q (hs q hq), h4⟩, h5⟩
theorem raiseOut {M : Model} {A : Around} {E E' : Value → Shared → Prop} {s : Shared} {base h₀ g h hh : Heap} {outer : List Env} {L L' a e : Addr} {m m' : Str → Option Value} {env : Env} {name : Str} {scope : Scope} {cd : Value} {news news' : List (Addr × Obj)} {vs : List Value} {tk : Nat}
    (hraise : ∀ (e t : Addr) (vs : List Value) (G h' : Heap) (tk' : Nat), Fr h₀ L G m → RaisedS base G (env :: outer) e (.ref 61) t vs news h' → G.UpToSlots h' → E (.ref e) { s with heap := h', toks := tk' })
    (FG : Fr h₀ L g m) (K : Below A base (env :: outer) g) (hx : Heap.MadeExcOf h hh e (.ref 61) vs) (F : Fr g L' h m') (N : News g L' h news') (hs : ∀ p ∈ news, p ∈ news') (hk : scope.kind = .function) :
    wpAny M (A.deeper (envOf name scope L' a cd)) (leaving (envOf name scope L' a cd) (.ref e)) (fun _ s'' => E (.ref e) s'') E' { s with heap := hh, toks := tk } :=
  leave_raiseS K hx F N (fun h' t R _ U => hraise e t vs g h' tk FG (raisedS_drop R hs) U) hk
/-- the words of the refusal: some text (made once, not at each path) -/
theorem msg_mod {prog : Program} {w : World} {A : Around} {E : Value → Shared → Prop} {s : Shared} {t u : Tok} {n : Int} {Q : Value → Shared → Prop} (h0 : 0 ≤ n) (h1 : n < 10 ^ 10) (h : ∀ x t' k, Q (.str x t') { s with toks := k }) :
    wpAny (model prog w) A (binaryOp .Mod (.str (Str.ofString "Invalid base64-encoded string: number of data characters (%d) cannot be 1 more than a multiple of 4") t) (.int n u)) Q E s := by
  refine' KPc.mod_int ?kpcF h0 h1 ?kpcm ?_
  case kpcF => kpc_eq
  case kpcm => kpc_run
  exact fun t' k => h _ t' k
section
variable {prog : Program} {w : World} {p : Program} {loose : List Str} {mean : ExcName → Option Value} {mg mb : Str → Option Value}
theorem a2b (strict : Bool) (b : Array UInt8) (tb : Tok) (hb : b.size ≤ 12) : ClaimR prog w p loose mean mg mb 100 2 [.bytes b tb] ((decOut strict (KBw.bInts b)).map fun l t => .bytes (byteArr l) t) [(Str.ofString "strict_mode", .bool strict)] := by
  dsimp only [ClaimR, RetV, RaiseK]
  intros
  rename_i hret hraise
  refine wpAny_call ?_
  (refine' code_def ?k1 ?k2 ?k3 ?k4 ?k5 ?kA ?kF ?kK ?k6 ?k7 ?k8 ?k9 ?kB ?_ ?c2 ?c3 ?c4 ?c5; (case kA => exact rfl); (case kF => exact rfl); (case kK => assumption); (case k1 => k_asm); (case k2 => k_asm); (case k3 => k_asm); (case k4 => k_asm); (case k5 => k_asm); (case k6 => k_is); (case k7 => k_is); (case k8 => first | (dsimp only [ktrTop]; omega) | ktr_room); (case k9 => first | exact BindsTo.of_eq rfl | exact binds_K (by k_in) rfl (by k_is) rfl rfl rfl); (case c5 => decide); (case kB => exact locs rfl); (case c2 => exact rfl); (case c3 => exact rfl); (case c4 => exact rfl); k_whole; intro g1 L1 h1 FG1 F1 N1 B1 X1 T1; (try dsimp only); (try k_lift B1); (try k_fold))
  (refine hide_defR (P := LeaveK _ _ _ _ _) ?_; intro K9 hR9; (try dsimp only))
  (refine let_around ?_; intro A9)
  k_with_none
  k_with "exec If" => (with_reducible refine wpAny_If ?_)
  k_with "isTrue Compare" => ((with_reducible show wpAny _ _ (isTrue (Expr.Compare (Expr.Name _ _) [CmpOp.Eq] [Expr.Constant (Const.int _) _ _] _) _ _) _ _ _); k_dflt (refine' test_eq ?F ?v ?_ ?a ?b ?d; (case F => k_asm); (case a => rfl); (case b => rfl); (case d => decide); (case v => rfl)); (try dsimp only))
  k_with "isTrue Compare" => ((with_reducible show wpAny _ _ (isTrue (Expr.Compare (Expr.Name _ _) [CmpOp.NotEq] [Expr.Constant (Const.int _) _ _] _) _ _) _ _ _); k_dflt (refine' test_ne ?F ?v ?_ ?a ?b ?d; (case F => k_asm); (case a => rfl); (case b => rfl); (case d => decide); (case v => rfl)); (try dsimp only))
  k_with "isTrue Compare" => ((with_reducible show wpAny _ _ (isTrue (Expr.Compare (Expr.Name _ _) [CmpOp.Lt] [Expr.Constant (Const.int _) _ _] _) _ _) _ _ _); k_dflt (refine' test_lt ?F ?v ?_ ?a ?b ?d; (case F => k_asm); (case a => rfl); (case b => rfl); (case d => decide); (case v => rfl)); (try dsimp only))
  k_with "isTrue Compare" => ((with_reducible show wpAny _ _ (isTrue (Expr.Compare (Expr.Name _ _) [CmpOp.LtE] [Expr.Constant (Const.int _) _ _] _) _ _) _ _ _); k_dflt (refine' test_le ?F ?v ?_ ?a ?b ?d; (case F => k_asm); (case a => rfl); (case b => rfl); (case d => decide); (case v => rfl)); (try dsimp only))
  k_with "isTrue Compare" => ((with_reducible show wpAny _ _ (isTrue (Expr.Compare (Expr.Name _ _) [CmpOp.GtE] [Expr.Constant (Const.int _) _ _] _) _ _) _ _ _); k_dflt (refine' test_ge ?F ?v ?_ ?a ?b ?d; (case F => k_asm); (case a => rfl); (case b => rfl); (case d => decide); (case v => rfl)); (try dsimp only))
  k_with "Thn" => first | (refine hK9 _ _ ?_; (try clear hK9); (try dsimp only)) | (refine hK9 _ ?_; (try clear hK9); (try dsimp only))
  k_with "Rtn" => (refine hR9 _ _ ?_)
  k_with "Trn" => (refine hN9 _ _ ?_; (try dsimp only))
  k_with "ThB" => refine thb_ite ?_
  k_with "ThB true" => (refine hT9 _ ?_; (try clear hT9 hF9); (try dsimp only [List.cons_append, List.nil_append, List.append_nil]))
  k_with "ThB false" => (refine hF9 _ ?_; (try clear hT9 hF9); (try dsimp only [List.cons_append, List.nil_append, List.append_nil]))
  k_with "execs cons If" => (refine flat_if ?_; intro K9 hT9 hF9)
  k_with "execs cons If" => k_dflt ((first | (refine' if_pb (lit := false) (n := 6) ?F ?c ?_ ?_; (case F => k_asm); (case c => exact rfl)) | (refine' if_p (lit := false) (n := 6) ?F ?c ?_ ?_; (case F => k_asm); (case c => exact rfl))); (all_goals (intro k9 hb9; first | (exfalso; omega) | dsimp only [List.cons_append, List.nil_append, List.append_nil] | skip)))
  k_with "execs cons If" => k_dflt ((first | (refine' if_T (lit := true) (n := 6) ?F ?c ?_; (case F => k_asm); (case c => exact rfl)) | (refine' if_F (lit := true) (n := 6) ?F ?c ?_; (case F => k_asm); (case c => exact rfl))); intro k9; (try dsimp only [List.cons_append, List.nil_append, List.append_nil]))
  k_with "execs cons If" => k_dflt (refine' if_p (lit := true) (n := 6) ?F ?c ?_ ?_; (case F => k_asm); (case c => exact rfl); (all_goals (intro k9 hb9; first | (exfalso; omega) | dsimp only [List.cons_append, List.nil_append, List.append_nil] | skip)))
  k_with "execs cons Assign" => ((fail_if_success (with_reducible show wpAny _ _ (execs (Stmt.Assign _ (Expr.ListComp _ _ _ _) _ :: _) _) _ _ _)); refine' flat_asg ?_ ?s; (case s => exact rfl); intro K9 hK9)
  k_with "execs cons Assign" => k_dflt (refine' asg_ev (n := 6) ?F ?N ?L ?x ?s ?e ?_; (case F => k_asm); (case N => k_asm); (case L => exact rfl); (case x => exact rfl); (case s => exact rfl); (case e => exact rfl); intro t9 k9 h' m9 F' N'; (try dsimp only); (try k_sweep))
  k_with "storeName" => k_dflt (refine' store_ev ?F ?N ?L ?x ?_; (case F => k_asm); (case N => k_asm); (case L => exact rfl); (case x => exact rfl); intro h' k9 m9 F' N'; (try dsimp only); (try k_sweep))
  k_with "execs cons Return" => (refine flat_ret ?_; intro K9 hK9)
  k_with "execs cons Return" => k_dflt (refine' ret_ev (n := 6) ?F ?e ?_; (case F => k_asm); (case e => exact rfl); intro t9 k9; (try dsimp only))
  k_with "execs cons Expr" => (refine' flat_expr ?_ ?i ?s; (case i => exact rfl); (case s => exact rfl); intro K9 hK9)
  k_with "execs cons Raise" => refine flat_raise ?_
  k_with "execs cons Continue" => refine flat_cont ?_
  k_with "spliced" => plain_pass; k_dflt (refine' args_ev (n := 6) ?F ?e ?_; (case F => k_asm); (case e => exact rfl); intro t9 k9; (try dsimp only [vals, List.cons_append, List.nil_append]))
  k_with "eval Call Name" => plain_pass; k_dflt (refine' callN_ev (n := 6) ?F ?X ?T ?f ?v ?w ?g ?e ?_ ?a ?b ?d; (case F => k_asm); (case e => exact rfl); (case b => exact rfl); (case X => k_asm); (case T => k_asm); (case a => exact rfl); (case f => k_is); (case v => boot_fast); (case w => exact rfl); (case g => decide); (case d => decide); intro t9 k9; (try dsimp only [vals]))
  k_with "eval Call Name" => plain_pass; k_dflt (refine' call_ev (n := 6) ?F ?X ?T ?f ?k ?e ?_ ?a ?b ?d; (case F => k_asm); (case e => exact rfl); (case b => exact rfl); (case X => k_asm); (case T => k_asm); (case a => exact rfl); (case f => k_is); (case k => k_is); (case d => decide); intro t9 k9; (try dsimp only [vals]))
  k_with "call ref" => ((with_reducible show wpAny _ _ (call (Value.ref 71) [Value.bytes _ _]) _ _ _); (refine' ascii_buffer _ _ _ _ _ _ _ _ _ _ _ _ _ _ _ _ _ _ _ _ ?k1 ?k2 ?k3 ?k4 ?k5 ?kK ?kd ?ku ?_; (case k1 => k_asm); (case k2 => k_asm); (case k3 => k_asm); (case k4 => k_asm); (case k5 => k_asm); (case kK => first | exact rfl | assumption); (case kd => first | (dsimp only [Around.deeper]; omega) | ktr_room); (case ku => first | (dsimp only [Around.deeper]; omega) | ktr_units); intro t9 h9 tk9 F9 N9; (try dsimp only); (try k_fold)))
  k_with "call ref" => ((with_reducible show wpAny _ _ (call (Value.ref 85) [Value.bool _]) _ _ _); (refine' truth_bool _ _ _ _ _ _ _ _ _ _ _ _ _ _ _ _ _ _ _ ?k1 ?k2 ?k3 ?k4 ?k5 ?kK ?kd ?ku ?_; (case k1 => k_asm); (case k2 => k_asm); (case k3 => k_asm); (case k4 => k_asm); (case k5 => k_asm); (case kK => first | exact rfl | assumption); (case kd => first | (dsimp only [Around.deeper]; omega) | ktr_room); (case ku => first | (dsimp only [Around.deeper]; omega) | ktr_units); intro t9 h9 tk9 F9 N9; (try dsimp only); (try k_fold)))
  k_with "call ref" => ((with_reducible show wpAny _ _ (call (Value.ref 92) [Value.int _ _]) _ _ _); (refine' b64_value _ _ _ _ _ _ _ _ _ _ _ _ _ _ _ _ _ _ _ _ ?k1 ?k2 ?k3 ?k4 ?k5 ?kK ?kd ?ku ?_; (case k1 => k_asm); (case k2 => k_asm); (case k3 => k_asm); (case k4 => k_asm); (case k5 => k_asm); (case kK => first | exact rfl | assumption); (case kd => first | (dsimp only [Around.deeper]; omega) | ktr_room); (case ku => first | (dsimp only [Around.deeper]; omega) | ktr_units); intro t9 h9 tk9 F9 N9; (try dsimp only); (try k_fold)))
  k_with "call builtin:list.append" => ((with_reducible show wpAny _ _ (call (Value.builtin "list.append") [Value.ref _, _]) _ _ _); (refine' append_off ?k1 ?k2 ?k3 ?_ ?kz; (case k1 => k_asm); (case k2 => k_asm); (case k3 => assumption); (case kz => ((simp only [Array.size_push, List.size_toArray]); (rw [sizeLine_eq]); omega)); intro h9 F9 N9; (try k_sweep)))
  k_with "binaryOp BitAnd int int" => first | refine and_m2 ?_ | refine and_m4 ?_ | refine and_m6 ?_ | refine and_m16 ?_
  k_with "binaryOp RShift int int" => first | refine shr_k 2 4 (by decide) rfl ?_ | refine shr_k 4 16 (by decide) rfl ?_ | refine shr_k 6 64 (by decide) rfl ?_ | refine shr_k 0 1 (by decide) rfl ?_
  k_with "binaryOp LShift int int" => (first | refine shl_4 ?h0 ?h1 ?_ | refine shl_16 ?h0 ?h1 ?_ | refine shl_64 ?h0 ?h1 ?_ | refine shl_256 ?h0 ?h1 ?_); (case h0 => omega); (case h1 => omega)
  k_with "binaryOp BitOr int int" => (first | refine or_4 ?h0 ?h1 ?h2 ?_ | refine or_16 ?h0 ?h1 ?h2 ?_ | refine or_64 ?h0 ?h1 ?h2 ?_ | refine or_256 ?h0 ?h1 ?h2 ?_); (case h0 => omega); (case h1 => omega); (case h2 => omega)
  k_with "InvEndN" => refine stop ?_
  k_with "leaving ref" => refine stop ?_
  k_with "binaryOp Mod str int" => ((refine' msg_mod ?h0 ?h1 ?_; (case h0 => kpc_fact); (case h1 => kpc_fact)); intro x9 t9 k9; (try dsimp only))
  k_with "pyIter bytes" => refine stop ?_
  k_steps
  refine Stop.go ?_
  refine bytesFor [Str.ofString "quad_pos", Str.ofString "leftchar", Str.ofString "pads", Str.ofString "i"] [Str.ofString "out", Str.ofString "strict_mode"] (DecInv strict) rfl (by k_asm) (by k_asm) (by assumption) IntsAre.nil (as₀ := [(_, _), (_, _), (_, _), (_, _)]) (by rfl) (kv := [_, _]) (by rfl) (DecInv.start strict) ?_ ?_
  · intro pre post n t u as out vs nn h tk own hbs hn0 hn1 hlen hoff hI hP F1 N1
    obtain ⟨⟨q, t1⟩, ⟨l, t2⟩, ⟨pd, t3⟩, ⟨i, t4⟩, rfl⟩ := len4 hlen
    obtain ⟨q', l', p', i', e, hD, hi0, hi1⟩ := id hP
    simp only [List.map, List.cons.injEq, and_true] at e
    obtain ⟨rfl, rfl, rfl, rfl⟩ := e
    obtain ⟨hq, hl0, hl1, hl2, hl3, hlb, hp0, hp1, hr, hn⟩ := decFold_ok strict pre _ hD
    simp only at hq hl0 hl1 hl2 hl3 hlb hp0 hp1 hr hn
    have hpl : pre.length < 12 := by
      have h1 := congrArg List.length hbs
      rw [KBw.ints_length, List.length_append, List.length_cons] at h1
      omega
    have hvl : vs.length ≤ 100 := by
      rw [hI.length]
      omega
    have hv := b64val_in n
    simp only [ov, List.map, iv] at F1
    try k_fold
    refine hide_turn ?_; intro T9 hN9
    k_steps
    all_goals first
      | (refine Stop.go (outEnd [(_, _), (_, _), (_, _), (_, _)] (by k_asm) (by k_asm) (show IntsAre vs.toArray.toList out from hI) (by rfl) (by rfl) ?_); dsimp only [List.map]; refine DecInv.next hD ?_ hi0 hi1; (first | exact stepP (by assumption) (by assumption) | exact stepPF (by assumption) (by assumption) | exact stepPN (by assumption) (by assumption) (by assumption) | exact stepB (by assumption) (by assumption) (by assumption) | exact stepBN (by assumption) (by assumption) (by assumption) | exact stepA (by assumption) (by assumption) (by assumption) | exact step_0 (by assumption) (by assumption) (by assumption) (by assumption) | exact step_1 (by assumption) (by assumption) (by assumption) (by assumption) (by assumption) | exact step_2 (by assumption) (by assumption) (by assumption) (by assumption) (by assumption) (by assumption) | exact step_3 (by assumption) (by assumption) (by assumption) (by assumption) (by assumption) (by assumption) | fail "step"))
      | (refine Stop.go (outEnd [(_, _), (_, _), (_, _), (_, _)] (by k_asm) (by k_asm) (ints_push (arr := vs.toArray) hI) (by rfl) (by rfl) ?_); dsimp only [List.map]; refine DecInv.next hD ?_ hi0 hi1; (first | exact stepP (by assumption) (by assumption) | exact stepPF (by assumption) (by assumption) | exact stepPN (by assumption) (by assumption) (by assumption) | exact stepB (by assumption) (by assumption) (by assumption) | exact stepBN (by assumption) (by assumption) (by assumption) | exact stepA (by assumption) (by assumption) (by assumption) | exact step_0 (by assumption) (by assumption) (by assumption) (by assumption) | exact step_1 (by assumption) (by assumption) (by assumption) (by assumption) (by assumption) | exact step_2 (by assumption) (by assumption) (by assumption) (by assumption) (by assumption) (by assumption) | exact step_3 (by assumption) (by assumption) (by assumption) (by assumption) (by assumption) (by assumption) | fail "step"))
      | (refine Stop.go (raiseOut (hraise (dec_cut hD hbs (by first | exact stepP (by assumption) (by assumption) | exact stepPF (by assumption) (by assumption) | exact stepPN (by assumption) (by assumption) (by assumption) | exact stepB (by assumption) (by assumption) (by assumption) | exact stepBN (by assumption) (by assumption) (by assumption) | exact stepA (by assumption) (by assumption) (by assumption) | exact step_0 (by assumption) (by assumption) (by assumption) (by assumption) | exact step_1 (by assumption) (by assumption) (by assumption) (by assumption) (by assumption) | exact step_2 (by assumption) (by assumption) (by assumption) (by assumption) (by assumption) (by assumption) | exact step_3 (by assumption) (by assumption) (by assumption) (by assumption) (by assumption) (by assumption) | fail "step"))) FG1 (by assumption) (by assumption) (by k_asm) (by k_asm) (fun p hp => .tail _ (List.mem_append_left _ hp)) rfl))
      | skip
    all_goals (refine Stop.go (outEnd [(_, _), (b64val n, _), (_, _), (_, _)] (by k_asm) (by k_asm) (show IntsAre vs.toArray.toList out from hI) (by rfl) (by rfl) ?_); dsimp only [List.map]; refine DecInv.next hD ?_ hi0 hi1; (first | exact stepP (by assumption) (by assumption) | exact stepPF (by assumption) (by assumption) | exact stepPN (by assumption) (by assumption) (by assumption) | exact stepB (by assumption) (by assumption) (by assumption) | exact stepBN (by assumption) (by assumption) (by assumption) | exact stepA (by assumption) (by assumption) (by assumption) | exact step_0 (by assumption) (by assumption) (by assumption) (by assumption) | exact step_1 (by assumption) (by assumption) (by assumption) (by assumption) (by assumption) | exact step_2 (by assumption) (by assumption) (by assumption) (by assumption) (by assumption) (by assumption) | exact step_3 (by assumption) (by assumption) (by assumption) (by assumption) (by assumption) (by assumption) | fail "step"))
  · intro u as out vs nn h tk hlen hI hP F1 N1
    obtain ⟨⟨q, t1⟩, ⟨l, t2⟩, ⟨pd, t3⟩, ⟨i, t4⟩, rfl⟩ := len4 hlen
    obtain ⟨q', l', p', i', e, hD, hi0, hi1⟩ := id hP
    simp only [List.map, List.cons.injEq, and_true] at e
    obtain ⟨rfl, rfl, rfl, rfl⟩ := e
    obtain ⟨hq, hl0, hl1, hl2, hl3, hlb, hp0, hp1, hr, hn⟩ := decFold_ok strict _ _ hD
    simp only at hq hl0 hl1 hl2 hl3 hlb hp0 hp1 hr hn
    rw [KBw.ints_length] at hn hp1
    have hvl : vs.length ≤ 100 := by
      rw [hI.length]
      omega
    have hol : out.length ≤ 100 := by omega
    simp only [ov, List.map, iv] at F1
    try k_fold
    k_steps
    all_goals first
      | (refine Stop.go (raiseOut (hraise (dec_end hD (by first | exact fin_1 (by assumption) | exact fin_N (by assumption) (by assumption) | fail "fin"))) FG1 (by assumption) (by assumption) (by k_asm) (by k_asm) (fun p hp => .tail _ hp) rfl))
      | exact retV _ (hret _ (dec_ret hD (fin_S (by assumption) (by assumption)))) (by k_asm) (by k_asm) (fun p hp => .tail _ hp) rfl
      | skip
end
end

section
section
variable {prog : Program} {w : World} {p : Program} {loose : List Str} {mean : ExcName → Option Value} {mg mb : Str → Option Value}
theorem a2bS (b : Array UInt8) (tb : Tok) (hb : b.size ≤ 12) : ClaimR prog w p loose mean mg mb 100 2 [.bytes b tb] ((decOut true (KBw.bInts b)).map fun l t => .bytes (byteArr l) t) [(Str.ofString "strict_mode", .bool true)] := a2b true b tb hb
theorem a2bN (b : Array UInt8) (tb : Tok) (hb : b.size ≤ 12) : ClaimR prog w p loose mean mg mb 100 2 [.bytes b tb] ((decOut false (KBw.bInts b)).map fun l t => .bytes (byteArr l) t) [(Str.ofString "strict_mode", .bool false)] := a2b false b tb hb
end
end

theorem reset14 : True := by
  w_top off
  k_with_none
  trivial
section
theorem trans_size (T b : Array UInt8) : (trans T b).size = b.size := by unfold trans; rw [Array.size_map]
theorem raiseOn {M : Model} {A : Around} {E E' : Value → Shared → Prop} {s : Shared} {base h₀ g G hh : Heap} {outer : List Env} {L L' a e t : Addr} {m m' : Str → Option Value} {env : Env} {name : Str} {scope : Scope} {cd : Value} {news news' : List (Addr × Obj)} {vs : List Value} {tk : Nat}
    (hraise : ∀ (e t : Addr) (vs : List Value) (G h' : Heap) (tk' : Nat), Fr h₀ L G m → RaisedS base G (env :: outer) e (.ref 61) t vs news h' → G.UpToSlots h' → E (.ref e) { s with heap := h', toks := tk' })
    (FG : Fr h₀ L g m) (K : Below A base (env :: outer) g) (F : Fr g L' G m') (R : RaisedS base G (envOf name scope L' a cd :: env :: outer) e (.ref 61) t vs news' hh) (U : G.UpToSlots hh) (hs : ∀ p ∈ news, p ∈ news') :
    wpAny M (A.deeper (envOf name scope L' a cd)) (leaving (envOf name scope L' a cd) (.ref e)) (fun _ s'' => E (.ref e) s'') E' { s with heap := hh, toks := tk } :=
  leave_onS K F R U fun h' R' _ U' => hraise e t vs g h' tk FG (raisedS_drop R' hs) U'
abbrev urlT : Array UInt8 := #[0, 1, 2, 3, 4, 5, 6, 7, 8, 9, 10, 11, 12, 13, 14, 15, 16, 17, 18, 19, 20, 21, 22, 23, 24, 25, 26, 27, 28, 29, 30, 31, 32, 33, 34, 35, 36, 37, 38, 39, 40, 41, 42, 43, 44, 43, 46, 47, 48, 49, 50, 51, 52, 53, 54, 55, 56, 57, 58, 59, 60, 61, 62, 63, 64, 65, 66, 67, 68, 69, 70, 71, 72, 73, 74, 75, 76, 77, 78, 79, 80, 81, 82, 83, 84, 85, 86, 87, 88, 89, 90, 91, 92, 93, 94, 47, 96, 97, 98, 99, 100, 101, 102, 103, 104, 105, 106, 107, 108, 109, 110, 111, 112, 113, 114, 115, 116, 117, 118, 119, 120, 121, 122, 123, 124, 125, 126, 127, 128, 129, 130, 131, 132, 133, 134, 135, 136, 137, 138, 139, 140, 141, 142, 143, 144, 145, 146, 147, 148, 149, 150, 151, 152, 153, 154, 155, 156, 157, 158, 159, 160, 161, 162, 163, 164, 165, 166, 167, 168, 169, 170, 171, 172, 173, 174, 175, 176, 177, 178, 179, 180, 181, 182, 183, 184, 185, 186, 187, 188, 189, 190, 191, 192, 193, 194, 195, 196, 197, 198, 199, 200, 201, 202, 203, 204, 205, 206, 207, 208, 209, 210, 211, 212, 213, 214, 215, 216, 217, 218, 219, 220, 221, 222, 223, 224, 225, 226, 227, 228, 229, 230, 231, 232, 233, 234, 235, 236, 237, 238, 239, 240, 241, 242, 243, 244, 245, 246, 247, 248, 249, 250, 251, 252, 253, 254, 255]
theorem urlT_eq : urlT = mkT #[45, 95] #[43, 47] := by
  rw [mk_two]
  exact congrArg List.toArray (by decide +kernel)
section
variable {prog : Program} {w : World} {p : Program} {loose : List Str} {mean : ExcName → Option Value} {mg mb : Str → Option Value}
theorem b64dec (b : Array UInt8) (tb : Tok) (hb : b.size ≤ 12) : ClaimR prog w p loose mean mg mb 147 3 [.bytes b tb] ((decOut false (KBw.bInts b)).map fun l t => .bytes (byteArr l) t) := by
  dsimp only [ClaimR, RetV, RaiseK]
  intros
  rename_i hret hraise
  refine wpAny_call ?_
  (refine' code_def ?k1 ?k2 ?k3 ?k4 ?k5 ?kA ?kF ?kK ?k6 ?k7 ?k8 ?k9 ?kB ?_ ?c2 ?c3 ?c4 ?c5; (case kA => exact rfl); (case kF => exact rfl); (case kK => assumption); (case k1 => k_asm); (case k2 => k_asm); (case k3 => k_asm); (case k4 => k_asm); (case k5 => k_asm); (case k6 => k_is); (case k7 => k_is); (case k8 => first | (dsimp only [ktrTop]; omega) | ktr_room); (case k9 => first | exact BindsTo.of_eq rfl | exact binds_K (by k_in) rfl (by k_is) rfl rfl rfl); (case c5 => decide); (case kB => exact locs rfl); (case c2 => exact rfl); (case c3 => exact rfl); (case c4 => exact rfl); k_whole; intro g1 L1 h1 FG1 F1 N1 B1 X1 T1; (try dsimp only); (try k_lift B1); (try k_fold))
  (refine hide_defR (P := LeaveK _ _ _ _ _) ?_; intro K9 hR9; (try dsimp only))
  (refine let_around ?_; intro A9)
  k_with_none
  k_with "exec If" => (with_reducible refine wpAny_If ?_)
  k_with "isTrue Compare" => ((with_reducible show wpAny _ _ (isTrue (Expr.Compare (Expr.Name _ _) [CmpOp.Eq] [Expr.Constant (Const.int _) _ _] _) _ _) _ _ _); k_dflt (refine' test_eq ?F ?v ?_ ?a ?b ?d; (case F => k_asm); (case a => rfl); (case b => rfl); (case d => decide); (case v => rfl)); (try dsimp only))
  k_with "isTrue Compare" => ((with_reducible show wpAny _ _ (isTrue (Expr.Compare (Expr.Name _ _) [CmpOp.NotEq] [Expr.Constant (Const.int _) _ _] _) _ _) _ _ _); k_dflt (refine' test_ne ?F ?v ?_ ?a ?b ?d; (case F => k_asm); (case a => rfl); (case b => rfl); (case d => decide); (case v => rfl)); (try dsimp only))
  k_with "isTrue Compare" => ((with_reducible show wpAny _ _ (isTrue (Expr.Compare (Expr.Name _ _) [CmpOp.Lt] [Expr.Constant (Const.int _) _ _] _) _ _) _ _ _); k_dflt (refine' test_lt ?F ?v ?_ ?a ?b ?d; (case F => k_asm); (case a => rfl); (case b => rfl); (case d => decide); (case v => rfl)); (try dsimp only))
  k_with "isTrue Compare" => ((with_reducible show wpAny _ _ (isTrue (Expr.Compare (Expr.Name _ _) [CmpOp.LtE] [Expr.Constant (Const.int _) _ _] _) _ _) _ _ _); k_dflt (refine' test_le ?F ?v ?_ ?a ?b ?d; (case F => k_asm); (case a => rfl); (case b => rfl); (case d => decide); (case v => rfl)); (try dsimp only))
  k_with "isTrue Compare" => ((with_reducible show wpAny _ _ (isTrue (Expr.Compare (Expr.Name _ _) [CmpOp.GtE] [Expr.Constant (Const.int _) _ _] _) _ _) _ _ _); k_dflt (refine' test_ge ?F ?v ?_ ?a ?b ?d; (case F => k_asm); (case a => rfl); (case b => rfl); (case d => decide); (case v => rfl)); (try dsimp only))
  k_with "Thn" => first | (refine hK9 _ _ ?_; (try clear hK9); (try dsimp only)) | (refine hK9 _ ?_; (try clear hK9); (try dsimp only))
  k_with "Rtn" => (refine hR9 _ _ ?_)
  k_with "Trn" => (refine hN9 _ _ ?_; (try dsimp only))
  k_with "ThB" => refine thb_ite ?_
  k_with "ThB true" => (refine hT9 _ ?_; (try clear hT9 hF9); (try dsimp only [List.cons_append, List.nil_append, List.append_nil]))
  k_with "ThB false" => (refine hF9 _ ?_; (try clear hT9 hF9); (try dsimp only [List.cons_append, List.nil_append, List.append_nil]))
  k_with "execs cons If" => (refine flat_if ?_; intro K9 hT9 hF9)
  k_with "execs cons If" => k_dflt ((first | (refine' if_pb (lit := false) (n := 6) ?F ?c ?_ ?_; (case F => k_asm); (case c => exact rfl)) | (refine' if_p (lit := false) (n := 6) ?F ?c ?_ ?_; (case F => k_asm); (case c => exact rfl))); (all_goals (intro k9 hb9; first | (exfalso; omega) | dsimp only [List.cons_append, List.nil_append, List.append_nil] | skip)))
  k_with "execs cons If" => k_dflt ((first | (refine' if_T (lit := true) (n := 6) ?F ?c ?_; (case F => k_asm); (case c => exact rfl)) | (refine' if_F (lit := true) (n := 6) ?F ?c ?_; (case F => k_asm); (case c => exact rfl))); intro k9; (try dsimp only [List.cons_append, List.nil_append, List.append_nil]))
  k_with "execs cons If" => k_dflt (refine' if_p (lit := true) (n := 6) ?F ?c ?_ ?_; (case F => k_asm); (case c => exact rfl); (all_goals (intro k9 hb9; first | (exfalso; omega) | dsimp only [List.cons_append, List.nil_append, List.append_nil] | skip)))
  k_with "execs cons Assign" => ((fail_if_success (with_reducible show wpAny _ _ (execs (Stmt.Assign _ (Expr.ListComp _ _ _ _) _ :: _) _) _ _ _)); refine' flat_asg ?_ ?s; (case s => exact rfl); intro K9 hK9)
  k_with "execs cons Assign" => k_dflt (refine' asg_ev (n := 6) ?F ?N ?L ?x ?s ?e ?_; (case F => k_asm); (case N => k_asm); (case L => exact rfl); (case x => exact rfl); (case s => exact rfl); (case e => exact rfl); intro t9 k9 h' m9 F' N'; (try dsimp only); (try k_sweep))
  k_with "storeName" => k_dflt (refine' store_ev ?F ?N ?L ?x ?_; (case F => k_asm); (case N => k_asm); (case L => exact rfl); (case x => exact rfl); intro h' k9 m9 F' N'; (try dsimp only); (try k_sweep))
  k_with "execs cons Return" => (refine flat_ret ?_; intro K9 hK9)
  k_with "execs cons Return" => k_dflt (refine' ret_ev (n := 6) ?F ?e ?_; (case F => k_asm); (case e => exact rfl); intro t9 k9; (try dsimp only))
  k_with "execs cons Expr" => (refine' flat_expr ?_ ?i ?s; (case i => exact rfl); (case s => exact rfl); intro K9 hK9)
  k_with "execs cons Raise" => refine flat_raise ?_
  k_with "execs cons Continue" => refine flat_cont ?_
  k_with "spliced" => plain_pass; k_dflt (refine' args_ev (n := 6) ?F ?e ?_; (case F => k_asm); (case e => exact rfl); intro t9 k9; (try dsimp only [vals, List.cons_append, List.nil_append]))
  k_with "eval Call Name" => plain_pass; k_dflt (refine' callN_ev (n := 6) ?F ?X ?T ?f ?v ?w ?g ?e ?_ ?a ?b ?d; (case F => k_asm); (case e => exact rfl); (case b => exact rfl); (case X => k_asm); (case T => k_asm); (case a => exact rfl); (case f => k_is); (case v => boot_fast); (case w => exact rfl); (case g => decide); (case d => decide); intro t9 k9; (try dsimp only [vals]))
  k_with "eval Call Name" => plain_pass; k_dflt (refine' call_ev (n := 6) ?F ?X ?T ?f ?k ?e ?_ ?a ?b ?d; (case F => k_asm); (case e => exact rfl); (case b => exact rfl); (case X => k_asm); (case T => k_asm); (case a => exact rfl); (case f => k_is); (case k => k_is); (case d => decide); intro t9 k9; (try dsimp only [vals]))
  k_with "call ref" => ((with_reducible show wpAny _ _ (call (Value.ref 51) [Value.bytes _ _]) _ _ _); (refine' bytes_from _ _ _ _ _ _ _ _ _ _ _ _ _ _ _ _ _ _ _ _ ?k1 ?k2 ?k3 ?k4 ?k5 ?kK ?kd ?ku ?_; (case k1 => k_asm); (case k2 => k_asm); (case k3 => k_asm); (case k4 => k_asm); (case k5 => k_asm); (case kK => first | exact rfl | assumption); (case kd => first | (dsimp only [Around.deeper]; omega) | ktr_room); (case ku => first | (dsimp only [Around.deeper]; omega) | ktr_units); intro t9 h9 tk9 F9 N9; (try dsimp only); (try k_fold)))
  k_with "call ref" => ((with_reducible show wpAny _ _ (call (Value.ref 100) [Value.bytes _ _] _) _ _ _); (refine' a2bS _ _ (by first | assumption | (rw [trans_size]; assumption)) _ _ _ _ _ _ _ _ _ _ _ _ _ _ _ _ _ ?k1 ?k2 ?k3 ?k4 ?k5 ?kK ?kd ?ku ?_ ?_; (case k1 => k_asm); (case k2 => k_asm); (case k3 => k_asm); (case k4 => k_asm); (case k5 => k_asm); (case kK => first | exact rfl | assumption); (case kd => first | (dsimp only [Around.deeper]; omega) | ktr_room); (case ku => first | (dsimp only [Around.deeper]; omega) | ktr_units)); (all_goals first | (intro r9 hr9; obtain ⟨l9, hl9, hr9⟩ := Option.map_eq_some_iff.mp hr9; subst hr9; intro t9 h9 tk9 F9 N9; (try dsimp only); (try k_fold)) | (intro hN9 e9 t9 vs9 G9 h9 tk9 FG9 RS9 US9; (try dsimp only))))
  k_with "call ref" => ((with_reducible show wpAny _ _ (call (Value.ref 100) [Value.bytes _ _] _) _ _ _); (refine' a2bN _ _ (by first | assumption | (rw [trans_size]; assumption)) _ _ _ _ _ _ _ _ _ _ _ _ _ _ _ _ _ ?k1 ?k2 ?k3 ?k4 ?k5 ?kK ?kd ?ku ?_ ?_; (case k1 => k_asm); (case k2 => k_asm); (case k3 => k_asm); (case k4 => k_asm); (case k5 => k_asm); (case kK => first | exact rfl | assumption); (case kd => first | (dsimp only [Around.deeper]; omega) | ktr_room); (case ku => first | (dsimp only [Around.deeper]; omega) | ktr_units)); (all_goals first | (intro r9 hr9; obtain ⟨l9, hl9, hr9⟩ := Option.map_eq_some_iff.mp hr9; subst hr9; intro t9 h9 tk9 F9 N9; (try dsimp only); (try k_fold)) | (intro hN9 e9 t9 vs9 G9 h9 tk9 FG9 RS9 US9; (try dsimp only))))
  k_with "getMethod bytes" => first | (with_reducible refine method_translate ?_) | (with_reducible refine method_upper ?_) | (with_reducible refine method_hex ?_)
  k_with "call builtin:bytes.translate" => (refine' translate ?k1 ?k2 ?_; (case k1 => first | exact mkT_size _ _ | decide +kernel | rfl); (case k2 => first | ((try simp only [byteArr_size]); omega) | assumption); intro t9 k9; (try dsimp only))
  k_with "call builtin:bytes.upper" => (refine' upper ?k2 ?_; (case k2 => first | ((try simp only [byteArr_size, Array.size_map, hexCps_size]); omega) | assumption); intro t9 k9; (try dsimp only))
  k_with "call builtin:bytes.hex" => (refine' hex ?k2 ?_; (case k2 => omega); intro t9 k9; (try dsimp only))
  k_with "call builtin:str.encode" => (refine' encode ?k1 ?k2 ?_; (case k1 => exact hexCps_lt _); (case k2 => (show Array.size (hexCps _) ≤ _; rw [hexCps_size]; omega)); intro t9 k9; (try dsimp only))
  k_with "getMethod str" => (with_reducible refine method_encode ?_)
  k_with "getMethod type:bytes" => (refine' method_type ?F ?X ?m (by decide +kernel) ?e ?h ?_; (case F => k_asm); (case X => k_asm); (case m => first | rfl | kernel_rfl); (case e => k_dflt k_is); (case h => k_handed))
  k_with "call builtin:bytes.maketrans" => (refine' maketrans ?k1 ?_; (case k1 => first | exact Eq.symm (by assumption) | assumption | (simp only [List.size_toArray, List.length_cons, List.length_nil]; omega)); intro t9 k9; (try dsimp only))
  k_with "leaving ref" => refine stop ?_
  k_steps
  all_goals first
    | exact retV _ (hret _ (by assumption)) (by k_asm) (by k_asm) (fun p hp => hp) rfl
    | exact Stop.go (raiseOn (hraise (by assumption)) FG1 B1 (by assumption) (by assumption) (by assumption) (fun p hp => hp))
    | (exfalso; omega)
theorem b64decV (b : Array UInt8) (tb : Tok) (hb : b.size ≤ 12) : ClaimR prog w p loose mean mg mb 147 3 [.bytes b tb] ((decOut true (KBw.bInts b)).map fun l t => .bytes (byteArr l) t) [(Str.ofString "validate", .bool true)] := by
  dsimp only [ClaimR, RetV, RaiseK]
  intros
  rename_i hret hraise
  refine wpAny_call ?_
  (refine' code_def ?k1 ?k2 ?k3 ?k4 ?k5 ?kA ?kF ?kK ?k6 ?k7 ?k8 ?k9 ?kB ?_ ?c2 ?c3 ?c4 ?c5; (case kA => exact rfl); (case kF => exact rfl); (case kK => assumption); (case k1 => k_asm); (case k2 => k_asm); (case k3 => k_asm); (case k4 => k_asm); (case k5 => k_asm); (case k6 => k_is); (case k7 => k_is); (case k8 => first | (dsimp only [ktrTop]; omega) | ktr_room); (case k9 => first | exact BindsTo.of_eq rfl | exact binds_K (by k_in) rfl (by k_is) rfl rfl rfl); (case c5 => decide); (case kB => exact locs rfl); (case c2 => exact rfl); (case c3 => exact rfl); (case c4 => exact rfl); k_whole; intro g1 L1 h1 FG1 F1 N1 B1 X1 T1; (try dsimp only); (try k_lift B1); (try k_fold))
  (refine hide_defR (P := LeaveK _ _ _ _ _) ?_; intro K9 hR9; (try dsimp only))
  (refine let_around ?_; intro A9)
  k_with_none
  k_with "exec If" => (with_reducible refine wpAny_If ?_)
  k_with "isTrue Compare" => ((with_reducible show wpAny _ _ (isTrue (Expr.Compare (Expr.Name _ _) [CmpOp.Eq] [Expr.Constant (Const.int _) _ _] _) _ _) _ _ _); k_dflt (refine' test_eq ?F ?v ?_ ?a ?b ?d; (case F => k_asm); (case a => rfl); (case b => rfl); (case d => decide); (case v => rfl)); (try dsimp only))
  k_with "isTrue Compare" => ((with_reducible show wpAny _ _ (isTrue (Expr.Compare (Expr.Name _ _) [CmpOp.NotEq] [Expr.Constant (Const.int _) _ _] _) _ _) _ _ _); k_dflt (refine' test_ne ?F ?v ?_ ?a ?b ?d; (case F => k_asm); (case a => rfl); (case b => rfl); (case d => decide); (case v => rfl)); (try dsimp only))
  k_with "isTrue Compare" => ((with_reducible show wpAny _ _ (isTrue (Expr.Compare (Expr.Name _ _) [CmpOp.Lt] [Expr.Constant (Const.int _) _ _] _) _ _) _ _ _); k_dflt (refine' test_lt ?F ?v ?_ ?a ?b ?d; (case F => k_asm); (case a => rfl); (case b => rfl); (case d => decide); (case v => rfl)); (try dsimp only))
  k_with "isTrue Compare" => ((with_reducible show wpAny _ _ (isTrue (Expr.Compare (Expr.Name _ _) [CmpOp.LtE] [Expr.Constant (Const.int _) _ _] _) _ _) _ _ _); k_dflt (refine' test_le ?F ?v ?_ ?a ?b ?d; (case F => k_asm); (case a => rfl); (case b => rfl); (case d => decide); (case v => rfl)); (try dsimp only))
  k_with "isTrue Compare" => ((with_reducible show wpAny _ _ (isTrue (Expr.Compare (Expr.Name _ _) [CmpOp.GtE] [Expr.Constant (Const.int _) _ _] _) _ _) _ _ _); k_dflt (refine' test_ge ?F ?v ?_ ?a ?b ?d; (case F => k_asm); (case a => rfl); (case b => rfl); (case d => decide); (case v => rfl)); (try dsimp only))
  k_with "Thn" => first | (refine hK9 _ _ ?_; (try clear hK9); (try dsimp only)) | (refine hK9 _ ?_; (try clear hK9); (try dsimp only))
  k_with "Rtn" => (refine hR9 _ _ ?_)
  k_with "Trn" => (refine hN9 _ _ ?_; (try dsimp only))
  k_with "ThB" => refine thb_ite ?_
  k_with "ThB true" => (refine hT9 _ ?_; (try clear hT9 hF9); (try dsimp only [List.cons_append, List.nil_append, List.append_nil]))
  k_with "ThB false" => (refine hF9 _ ?_; (try clear hT9 hF9); (try dsimp only [List.cons_append, List.nil_append, List.append_nil]))
  k_with "execs cons If" => (refine flat_if ?_; intro K9 hT9 hF9)
  k_with "execs cons If" => k_dflt ((first | (refine' if_pb (lit := false) (n := 6) ?F ?c ?_ ?_; (case F => k_asm); (case c => exact rfl)) | (refine' if_p (lit := false) (n := 6) ?F ?c ?_ ?_; (case F => k_asm); (case c => exact rfl))); (all_goals (intro k9 hb9; first | (exfalso; omega) | dsimp only [List.cons_append, List.nil_append, List.append_nil] | skip)))
  k_with "execs cons If" => k_dflt ((first | (refine' if_T (lit := true) (n := 6) ?F ?c ?_; (case F => k_asm); (case c => exact rfl)) | (refine' if_F (lit := true) (n := 6) ?F ?c ?_; (case F => k_asm); (case c => exact rfl))); intro k9; (try dsimp only [List.cons_append, List.nil_append, List.append_nil]))
  k_with "execs cons If" => k_dflt (refine' if_p (lit := true) (n := 6) ?F ?c ?_ ?_; (case F => k_asm); (case c => exact rfl); (all_goals (intro k9 hb9; first | (exfalso; omega) | dsimp only [List.cons_append, List.nil_append, List.append_nil] | skip)))
  k_with "execs cons Assign" => ((fail_if_success (with_reducible show wpAny _ _ (execs (Stmt.Assign _ (Expr.ListComp _ _ _ _) _ :: _) _) _ _ _)); refine' flat_asg ?_ ?s; (case s => exact rfl); intro K9 hK9)
  k_with "execs cons Assign" => k_dflt (refine' asg_ev (n := 6) ?F ?N ?L ?x ?s ?e ?_; (case F => k_asm); (case N => k_asm); (case L => exact rfl); (case x => exact rfl); (case s => exact rfl); (case e => exact rfl); intro t9 k9 h' m9 F' N'; (try dsimp only); (try k_sweep))
  k_with "storeName" => k_dflt (refine' store_ev ?F ?N ?L ?x ?_; (case F => k_asm); (case N => k_asm); (case L => exact rfl); (case x => exact rfl); intro h' k9 m9 F' N'; (try dsimp only); (try k_sweep))
  k_with "execs cons Return" => (refine flat_ret ?_; intro K9 hK9)
  k_with "execs cons Return" => k_dflt (refine' ret_ev (n := 6) ?F ?e ?_; (case F => k_asm); (case e => exact rfl); intro t9 k9; (try dsimp only))
  k_with "execs cons Expr" => (refine' flat_expr ?_ ?i ?s; (case i => exact rfl); (case s => exact rfl); intro K9 hK9)
  k_with "execs cons Raise" => refine flat_raise ?_
  k_with "execs cons Continue" => refine flat_cont ?_
  k_with "spliced" => plain_pass; k_dflt (refine' args_ev (n := 6) ?F ?e ?_; (case F => k_asm); (case e => exact rfl); intro t9 k9; (try dsimp only [vals, List.cons_append, List.nil_append]))
  k_with "eval Call Name" => plain_pass; k_dflt (refine' callN_ev (n := 6) ?F ?X ?T ?f ?v ?w ?g ?e ?_ ?a ?b ?d; (case F => k_asm); (case e => exact rfl); (case b => exact rfl); (case X => k_asm); (case T => k_asm); (case a => exact rfl); (case f => k_is); (case v => boot_fast); (case w => exact rfl); (case g => decide); (case d => decide); intro t9 k9; (try dsimp only [vals]))
  k_with "eval Call Name" => plain_pass; k_dflt (refine' call_ev (n := 6) ?F ?X ?T ?f ?k ?e ?_ ?a ?b ?d; (case F => k_asm); (case e => exact rfl); (case b => exact rfl); (case X => k_asm); (case T => k_asm); (case a => exact rfl); (case f => k_is); (case k => k_is); (case d => decide); intro t9 k9; (try dsimp only [vals]))
  k_with "call ref" => ((with_reducible show wpAny _ _ (call (Value.ref 51) [Value.bytes _ _]) _ _ _); (refine' bytes_from _ _ _ _ _ _ _ _ _ _ _ _ _ _ _ _ _ _ _ _ ?k1 ?k2 ?k3 ?k4 ?k5 ?kK ?kd ?ku ?_; (case k1 => k_asm); (case k2 => k_asm); (case k3 => k_asm); (case k4 => k_asm); (case k5 => k_asm); (case kK => first | exact rfl | assumption); (case kd => first | (dsimp only [Around.deeper]; omega) | ktr_room); (case ku => first | (dsimp only [Around.deeper]; omega) | ktr_units); intro t9 h9 tk9 F9 N9; (try dsimp only); (try k_fold)))
  k_with "call ref" => ((with_reducible show wpAny _ _ (call (Value.ref 100) [Value.bytes _ _] _) _ _ _); (refine' a2bS _ _ (by first | assumption | (rw [trans_size]; assumption)) _ _ _ _ _ _ _ _ _ _ _ _ _ _ _ _ _ ?k1 ?k2 ?k3 ?k4 ?k5 ?kK ?kd ?ku ?_ ?_; (case k1 => k_asm); (case k2 => k_asm); (case k3 => k_asm); (case k4 => k_asm); (case k5 => k_asm); (case kK => first | exact rfl | assumption); (case kd => first | (dsimp only [Around.deeper]; omega) | ktr_room); (case ku => first | (dsimp only [Around.deeper]; omega) | ktr_units)); (all_goals first | (intro r9 hr9; obtain ⟨l9, hl9, hr9⟩ := Option.map_eq_some_iff.mp hr9; subst hr9; intro t9 h9 tk9 F9 N9; (try dsimp only); (try k_fold)) | (intro hN9 e9 t9 vs9 G9 h9 tk9 FG9 RS9 US9; (try dsimp only))))
  k_with "call ref" => ((with_reducible show wpAny _ _ (call (Value.ref 100) [Value.bytes _ _] _) _ _ _); (refine' a2bN _ _ (by first | assumption | (rw [trans_size]; assumption)) _ _ _ _ _ _ _ _ _ _ _ _ _ _ _ _ _ ?k1 ?k2 ?k3 ?k4 ?k5 ?kK ?kd ?ku ?_ ?_; (case k1 => k_asm); (case k2 => k_asm); (case k3 => k_asm); (case k4 => k_asm); (case k5 => k_asm); (case kK => first | exact rfl | assumption); (case kd => first | (dsimp only [Around.deeper]; omega) | ktr_room); (case ku => first | (dsimp only [Around.deeper]; omega) | ktr_units)); (all_goals first | (intro r9 hr9; obtain ⟨l9, hl9, hr9⟩ := Option.map_eq_some_iff.mp hr9; subst hr9; intro t9 h9 tk9 F9 N9; (try dsimp only); (try k_fold)) | (intro hN9 e9 t9 vs9 G9 h9 tk9 FG9 RS9 US9; (try dsimp only))))
  k_with "getMethod bytes" => first | (with_reducible refine method_translate ?_) | (with_reducible refine method_upper ?_) | (with_reducible refine method_hex ?_)
  k_with "call builtin:bytes.translate" => (refine' translate ?k1 ?k2 ?_; (case k1 => first | exact mkT_size _ _ | decide +kernel | rfl); (case k2 => first | ((try simp only [byteArr_size]); omega) | assumption); intro t9 k9; (try dsimp only))
  k_with "call builtin:bytes.upper" => (refine' upper ?k2 ?_; (case k2 => first | ((try simp only [byteArr_size, Array.size_map, hexCps_size]); omega) | assumption); intro t9 k9; (try dsimp only))
  k_with "call builtin:bytes.hex" => (refine' hex ?k2 ?_; (case k2 => omega); intro t9 k9; (try dsimp only))
  k_with "call builtin:str.encode" => (refine' encode ?k1 ?k2 ?_; (case k1 => exact hexCps_lt _); (case k2 => (show Array.size (hexCps _) ≤ _; rw [hexCps_size]; omega)); intro t9 k9; (try dsimp only))
  k_with "getMethod str" => (with_reducible refine method_encode ?_)
  k_with "getMethod type:bytes" => (refine' method_type ?F ?X ?m (by decide +kernel) ?e ?h ?_; (case F => k_asm); (case X => k_asm); (case m => first | rfl | kernel_rfl); (case e => k_dflt k_is); (case h => k_handed))
  k_with "call builtin:bytes.maketrans" => (refine' maketrans ?k1 ?_; (case k1 => first | exact Eq.symm (by assumption) | assumption | (simp only [List.size_toArray, List.length_cons, List.length_nil]; omega)); intro t9 k9; (try dsimp only))
  k_with "leaving ref" => refine stop ?_
  k_steps
  all_goals first
    | exact retV _ (hret _ (by assumption)) (by k_asm) (by k_asm) (fun p hp => hp) rfl
    | exact Stop.go (raiseOn (hraise (by assumption)) FG1 B1 (by assumption) (by assumption) (by assumption) (fun p hp => hp))
    | (exfalso; omega)
theorem b64decP (b c : Array UInt8) (tb tc : Tok) (hb : b.size ≤ 12) (hc : c.size = 2) : ClaimR prog w p loose mean mg mb 147 3 [.bytes b tb, .bytes c tc] ((decOut false (KBw.bInts (trans (mkT c #[43, 47]) b))).map fun l t => .bytes (byteArr l) t) := by
  dsimp only [ClaimR, RetV, RaiseK]
  intros
  rename_i hret hraise
  refine wpAny_call ?_
  (refine' code_def ?k1 ?k2 ?k3 ?k4 ?k5 ?kA ?kF ?kK ?k6 ?k7 ?k8 ?k9 ?kB ?_ ?c2 ?c3 ?c4 ?c5; (case kA => exact rfl); (case kF => exact rfl); (case kK => assumption); (case k1 => k_asm); (case k2 => k_asm); (case k3 => k_asm); (case k4 => k_asm); (case k5 => k_asm); (case k6 => k_is); (case k7 => k_is); (case k8 => first | (dsimp only [ktrTop]; omega) | ktr_room); (case k9 => first | exact BindsTo.of_eq rfl | exact binds_K (by k_in) rfl (by k_is) rfl rfl rfl); (case c5 => decide); (case kB => exact locs rfl); (case c2 => exact rfl); (case c3 => exact rfl); (case c4 => exact rfl); k_whole; intro g1 L1 h1 FG1 F1 N1 B1 X1 T1; (try dsimp only); (try k_lift B1); (try k_fold))
  (refine hide_defR (P := LeaveK _ _ _ _ _) ?_; intro K9 hR9; (try dsimp only))
  (refine let_around ?_; intro A9)
  k_with_none
  k_with "exec If" => (with_reducible refine wpAny_If ?_)
  k_with "isTrue Compare" => ((with_reducible show wpAny _ _ (isTrue (Expr.Compare (Expr.Name _ _) [CmpOp.Eq] [Expr.Constant (Const.int _) _ _] _) _ _) _ _ _); k_dflt (refine' test_eq ?F ?v ?_ ?a ?b ?d; (case F => k_asm); (case a => rfl); (case b => rfl); (case d => decide); (case v => rfl)); (try dsimp only))
  k_with "isTrue Compare" => ((with_reducible show wpAny _ _ (isTrue (Expr.Compare (Expr.Name _ _) [CmpOp.NotEq] [Expr.Constant (Const.int _) _ _] _) _ _) _ _ _); k_dflt (refine' test_ne ?F ?v ?_ ?a ?b ?d; (case F => k_asm); (case a => rfl); (case b => rfl); (case d => decide); (case v => rfl)); (try dsimp only))
  k_with "isTrue Compare" => ((with_reducible show wpAny _ _ (isTrue (Expr.Compare (Expr.Name _ _) [CmpOp.Lt] [Expr.Constant (Const.int _) _ _] _) _ _) _ _ _); k_dflt (refine' test_lt ?F ?v ?_ ?a ?b ?d; (case F => k_asm); (case a => rfl); (case b => rfl); (case d => decide); (case v => rfl)); (try dsimp only))
  k_with "isTrue Compare" => ((with_reducible show wpAny _ _ (isTrue (Expr.Compare (Expr.Name _ _) [CmpOp.LtE] [Expr.Constant (Const.int _) _ _] _) _ _) _ _ _); k_dflt (refine' test_le ?F ?v ?_ ?a ?b ?d; (case F => k_asm); (case a => rfl); (case b => rfl); (case d => decide); (case v => rfl)); (try dsimp only))
  k_with "isTrue Compare" => ((with_reducible show wpAny _ _ (isTrue (Expr.Compare (Expr.Name _ _) [CmpOp.GtE] [Expr.Constant (Const.int _) _ _] _) _ _) _ _ _); k_dflt (refine' test_ge ?F ?v ?_ ?a ?b ?d; (case F => k_asm); (case a => rfl); (case b => rfl); (case d => decide); (case v => rfl)); (try dsimp only))
  k_with "Thn" => first | (refine hK9 _ _ ?_; (try clear hK9); (try dsimp only)) | (refine hK9 _ ?_; (try clear hK9); (try dsimp only))
  k_with "Rtn" => (refine hR9 _ _ ?_)
  k_with "Trn" => (refine hN9 _ _ ?_; (try dsimp only))
  k_with "ThB" => refine thb_ite ?_
  k_with "ThB true" => (refine hT9 _ ?_; (try clear hT9 hF9); (try dsimp only [List.cons_append, List.nil_append, List.append_nil]))
  k_with "ThB false" => (refine hF9 _ ?_; (try clear hT9 hF9); (try dsimp only [List.cons_append, List.nil_append, List.append_nil]))
  k_with "execs cons If" => (refine flat_if ?_; intro K9 hT9 hF9)
  k_with "execs cons If" => k_dflt ((first | (refine' if_pb (lit := false) (n := 6) ?F ?c ?_ ?_; (case F => k_asm); (case c => exact rfl)) | (refine' if_p (lit := false) (n := 6) ?F ?c ?_ ?_; (case F => k_asm); (case c => exact rfl))); (all_goals (intro k9 hb9; first | (exfalso; omega) | dsimp only [List.cons_append, List.nil_append, List.append_nil] | skip)))
  k_with "execs cons If" => k_dflt ((first | (refine' if_T (lit := true) (n := 6) ?F ?c ?_; (case F => k_asm); (case c => exact rfl)) | (refine' if_F (lit := true) (n := 6) ?F ?c ?_; (case F => k_asm); (case c => exact rfl))); intro k9; (try dsimp only [List.cons_append, List.nil_append, List.append_nil]))
  k_with "execs cons If" => k_dflt (refine' if_p (lit := true) (n := 6) ?F ?c ?_ ?_; (case F => k_asm); (case c => exact rfl); (all_goals (intro k9 hb9; first | (exfalso; omega) | dsimp only [List.cons_append, List.nil_append, List.append_nil] | skip)))
  k_with "execs cons Assign" => ((fail_if_success (with_reducible show wpAny _ _ (execs (Stmt.Assign _ (Expr.ListComp _ _ _ _) _ :: _) _) _ _ _)); refine' flat_asg ?_ ?s; (case s => exact rfl); intro K9 hK9)
  k_with "execs cons Assign" => k_dflt (refine' asg_ev (n := 6) ?F ?N ?L ?x ?s ?e ?_; (case F => k_asm); (case N => k_asm); (case L => exact rfl); (case x => exact rfl); (case s => exact rfl); (case e => exact rfl); intro t9 k9 h' m9 F' N'; (try dsimp only); (try k_sweep))
  k_with "storeName" => k_dflt (refine' store_ev ?F ?N ?L ?x ?_; (case F => k_asm); (case N => k_asm); (case L => exact rfl); (case x => exact rfl); intro h' k9 m9 F' N'; (try dsimp only); (try k_sweep))
  k_with "execs cons Return" => (refine flat_ret ?_; intro K9 hK9)
  k_with "execs cons Return" => k_dflt (refine' ret_ev (n := 6) ?F ?e ?_; (case F => k_asm); (case e => exact rfl); intro t9 k9; (try dsimp only))
  k_with "execs cons Expr" => (refine' flat_expr ?_ ?i ?s; (case i => exact rfl); (case s => exact rfl); intro K9 hK9)
  k_with "execs cons Raise" => refine flat_raise ?_
  k_with "execs cons Continue" => refine flat_cont ?_
  k_with "spliced" => plain_pass; k_dflt (refine' args_ev (n := 6) ?F ?e ?_; (case F => k_asm); (case e => exact rfl); intro t9 k9; (try dsimp only [vals, List.cons_append, List.nil_append]))
  k_with "eval Call Name" => plain_pass; k_dflt (refine' callN_ev (n := 6) ?F ?X ?T ?f ?v ?w ?g ?e ?_ ?a ?b ?d; (case F => k_asm); (case e => exact rfl); (case b => exact rfl); (case X => k_asm); (case T => k_asm); (case a => exact rfl); (case f => k_is); (case v => boot_fast); (case w => exact rfl); (case g => decide); (case d => decide); intro t9 k9; (try dsimp only [vals]))
  k_with "eval Call Name" => plain_pass; k_dflt (refine' call_ev (n := 6) ?F ?X ?T ?f ?k ?e ?_ ?a ?b ?d; (case F => k_asm); (case e => exact rfl); (case b => exact rfl); (case X => k_asm); (case T => k_asm); (case a => exact rfl); (case f => k_is); (case k => k_is); (case d => decide); intro t9 k9; (try dsimp only [vals]))
  k_with "call ref" => ((with_reducible show wpAny _ _ (call (Value.ref 51) [Value.bytes _ _]) _ _ _); (refine' bytes_from _ _ _ _ _ _ _ _ _ _ _ _ _ _ _ _ _ _ _ _ ?k1 ?k2 ?k3 ?k4 ?k5 ?kK ?kd ?ku ?_; (case k1 => k_asm); (case k2 => k_asm); (case k3 => k_asm); (case k4 => k_asm); (case k5 => k_asm); (case kK => first | exact rfl | assumption); (case kd => first | (dsimp only [Around.deeper]; omega) | ktr_room); (case ku => first | (dsimp only [Around.deeper]; omega) | ktr_units); intro t9 h9 tk9 F9 N9; (try dsimp only); (try k_fold)))
  k_with "call ref" => ((with_reducible show wpAny _ _ (call (Value.ref 100) [Value.bytes _ _] _) _ _ _); (refine' a2bS _ _ (by first | assumption | (rw [trans_size]; assumption)) _ _ _ _ _ _ _ _ _ _ _ _ _ _ _ _ _ ?k1 ?k2 ?k3 ?k4 ?k5 ?kK ?kd ?ku ?_ ?_; (case k1 => k_asm); (case k2 => k_asm); (case k3 => k_asm); (case k4 => k_asm); (case k5 => k_asm); (case kK => first | exact rfl | assumption); (case kd => first | (dsimp only [Around.deeper]; omega) | ktr_room); (case ku => first | (dsimp only [Around.deeper]; omega) | ktr_units)); (all_goals first | (intro r9 hr9; obtain ⟨l9, hl9, hr9⟩ := Option.map_eq_some_iff.mp hr9; subst hr9; intro t9 h9 tk9 F9 N9; (try dsimp only); (try k_fold)) | (intro hN9 e9 t9 vs9 G9 h9 tk9 FG9 RS9 US9; (try dsimp only))))
  k_with "call ref" => ((with_reducible show wpAny _ _ (call (Value.ref 100) [Value.bytes _ _] _) _ _ _); (refine' a2bN _ _ (by first | assumption | (rw [trans_size]; assumption)) _ _ _ _ _ _ _ _ _ _ _ _ _ _ _ _ _ ?k1 ?k2 ?k3 ?k4 ?k5 ?kK ?kd ?ku ?_ ?_; (case k1 => k_asm); (case k2 => k_asm); (case k3 => k_asm); (case k4 => k_asm); (case k5 => k_asm); (case kK => first | exact rfl | assumption); (case kd => first | (dsimp only [Around.deeper]; omega) | ktr_room); (case ku => first | (dsimp only [Around.deeper]; omega) | ktr_units)); (all_goals first | (intro r9 hr9; obtain ⟨l9, hl9, hr9⟩ := Option.map_eq_some_iff.mp hr9; subst hr9; intro t9 h9 tk9 F9 N9; (try dsimp only); (try k_fold)) | (intro hN9 e9 t9 vs9 G9 h9 tk9 FG9 RS9 US9; (try dsimp only))))
  k_with "getMethod bytes" => first | (with_reducible refine method_translate ?_) | (with_reducible refine method_upper ?_) | (with_reducible refine method_hex ?_)
  k_with "call builtin:bytes.translate" => (refine' translate ?k1 ?k2 ?_; (case k1 => first | exact mkT_size _ _ | decide +kernel | rfl); (case k2 => first | ((try simp only [byteArr_size]); omega) | assumption); intro t9 k9; (try dsimp only))
  k_with "call builtin:bytes.upper" => (refine' upper ?k2 ?_; (case k2 => first | ((try simp only [byteArr_size, Array.size_map, hexCps_size]); omega) | assumption); intro t9 k9; (try dsimp only))
  k_with "call builtin:bytes.hex" => (refine' hex ?k2 ?_; (case k2 => omega); intro t9 k9; (try dsimp only))
  k_with "call builtin:str.encode" => (refine' encode ?k1 ?k2 ?_; (case k1 => exact hexCps_lt _); (case k2 => (show Array.size (hexCps _) ≤ _; rw [hexCps_size]; omega)); intro t9 k9; (try dsimp only))
  k_with "getMethod str" => (with_reducible refine method_encode ?_)
  k_with "getMethod type:bytes" => (refine' method_type ?F ?X ?m (by decide +kernel) ?e ?h ?_; (case F => k_asm); (case X => k_asm); (case m => first | rfl | kernel_rfl); (case e => k_dflt k_is); (case h => k_handed))
  k_with "call builtin:bytes.maketrans" => (refine' maketrans ?k1 ?_; (case k1 => first | exact Eq.symm (by assumption) | assumption | (simp only [List.size_toArray, List.length_cons, List.length_nil]; omega)); intro t9 k9; (try dsimp only))
  k_with "leaving ref" => refine stop ?_
  k_steps
  all_goals first
    | exact retV _ (hret _ (by assumption)) (by k_asm) (by k_asm) (fun p hp => hp) rfl
    | exact Stop.go (raiseOn (hraise (by assumption)) FG1 B1 (by assumption) (by assumption) (by assumption) (fun p hp => hp))
    | (exfalso; omega)
theorem b64decPV (b c : Array UInt8) (tb tc : Tok) (hb : b.size ≤ 12) (hc : c.size = 2) : ClaimR prog w p loose mean mg mb 147 3 [.bytes b tb, .bytes c tc, .bool true] ((decOut true (KBw.bInts (trans (mkT c #[43, 47]) b))).map fun l t => .bytes (byteArr l) t) := by
  dsimp only [ClaimR, RetV, RaiseK]
  intros
  rename_i hret hraise
  refine wpAny_call ?_
  (refine' code_def ?k1 ?k2 ?k3 ?k4 ?k5 ?kA ?kF ?kK ?k6 ?k7 ?k8 ?k9 ?kB ?_ ?c2 ?c3 ?c4 ?c5; (case kA => exact rfl); (case kF => exact rfl); (case kK => assumption); (case k1 => k_asm); (case k2 => k_asm); (case k3 => k_asm); (case k4 => k_asm); (case k5 => k_asm); (case k6 => k_is); (case k7 => k_is); (case k8 => first | (dsimp only [ktrTop]; omega) | ktr_room); (case k9 => first | exact BindsTo.of_eq rfl | exact binds_K (by k_in) rfl (by k_is) rfl rfl rfl); (case c5 => decide); (case kB => exact locs rfl); (case c2 => exact rfl); (case c3 => exact rfl); (case c4 => exact rfl); k_whole; intro g1 L1 h1 FG1 F1 N1 B1 X1 T1; (try dsimp only); (try k_lift B1); (try k_fold))
  (refine hide_defR (P := LeaveK _ _ _ _ _) ?_; intro K9 hR9; (try dsimp only))
  (refine let_around ?_; intro A9)
  k_with_none
  k_with "exec If" => (with_reducible refine wpAny_If ?_)
  k_with "isTrue Compare" => ((with_reducible show wpAny _ _ (isTrue (Expr.Compare (Expr.Name _ _) [CmpOp.Eq] [Expr.Constant (Const.int _) _ _] _) _ _) _ _ _); k_dflt (refine' test_eq ?F ?v ?_ ?a ?b ?d; (case F => k_asm); (case a => rfl); (case b => rfl); (case d => decide); (case v => rfl)); (try dsimp only))
  k_with "isTrue Compare" => ((with_reducible show wpAny _ _ (isTrue (Expr.Compare (Expr.Name _ _) [CmpOp.NotEq] [Expr.Constant (Const.int _) _ _] _) _ _) _ _ _); k_dflt (refine' test_ne ?F ?v ?_ ?a ?b ?d; (case F => k_asm); (case a => rfl); (case b => rfl); (case d => decide); (case v => rfl)); (try dsimp only))
  k_with "isTrue Compare" => ((with_reducible show wpAny _ _ (isTrue (Expr.Compare (Expr.Name _ _) [CmpOp.Lt] [Expr.Constant (Const.int _) _ _] _) _ _) _ _ _); k_dflt (refine' test_lt ?F ?v ?_ ?a ?b ?d; (case F => k_asm); (case a => rfl); (case b => rfl); (case d => decide); (case v => rfl)); (try dsimp only))
  k_with "isTrue Compare" => ((with_reducible show wpAny _ _ (isTrue (Expr.Compare (Expr.Name _ _) [CmpOp.LtE] [Expr.Constant (Const.int _) _ _] _) _ _) _ _ _); k_dflt (refine' test_le ?F ?v ?_ ?a ?b ?d; (case F => k_asm); (case a => rfl); (case b => rfl); (case d => decide); (case v => rfl)); (try dsimp only))
  k_with "isTrue Compare" => ((with_reducible show wpAny _ _ (isTrue (Expr.Compare (Expr.Name _ _) [CmpOp.GtE] [Expr.Constant (Const.int _) _ _] _) _ _) _ _ _); k_dflt (refine' test_ge ?F ?v ?_ ?a ?b ?d; (case F => k_asm); (case a => rfl); (case b => rfl); (case d => decide); (case v => rfl)); (try dsimp only))
  k_with "Thn" => first | (refine hK9 _ _ ?_; (try clear hK9); (try dsimp only)) | (refine hK9 _ ?_; (try clear hK9); (try dsimp only))
  k_with "Rtn" => (refine hR9 _ _ ?_)
  k_with "Trn" => (refine hN9 _ _ ?_; (try dsimp only))
  k_with "ThB" => refine thb_ite ?_
  k_with "ThB true" => (refine hT9 _ ?_; (try clear hT9 hF9); (try dsimp only [List.cons_append, List.nil_append, List.append_nil]))
  k_with "ThB false" => (refine hF9 _ ?_; (try clear hT9 hF9); (try dsimp only [List.cons_append, List.nil_append, List.append_nil]))
  k_with "execs cons If" => (refine flat_if ?_; intro K9 hT9 hF9)
  k_with "execs cons If" => k_dflt ((first | (refine' if_pb (lit := false) (n := 6) ?F ?c ?_ ?_; (case F => k_asm); (case c => exact rfl)) | (refine' if_p (lit := false) (n := 6) ?F ?c ?_ ?_; (case F => k_asm); (case c => exact rfl))); (all_goals (intro k9 hb9; first | (exfalso; omega) | dsimp only [List.cons_append, List.nil_append, List.append_nil] | skip)))
  k_with "execs cons If" => k_dflt ((first | (refine' if_T (lit := true) (n := 6) ?F ?c ?_; (case F => k_asm); (case c => exact rfl)) | (refine' if_F (lit := true) (n := 6) ?F ?c ?_; (case F => k_asm); (case c => exact rfl))); intro k9; (try dsimp only [List.cons_append, List.nil_append, List.append_nil]))
  k_with "execs cons If" => k_dflt (refine' if_p (lit := true) (n := 6) ?F ?c ?_ ?_; (case F => k_asm); (case c => exact rfl); (all_goals (intro k9 hb9; first | (exfalso; omega) | dsimp only [List.cons_append, List.nil_append, List.append_nil] | skip)))
  k_with "execs cons Assign" => ((fail_if_success (with_reducible show wpAny _ _ (execs (Stmt.Assign _ (Expr.ListComp _ _ _ _) _ :: _) _) _ _ _)); refine' flat_asg ?_ ?s; (case s => exact rfl); intro K9 hK9)
  k_with "execs cons Assign" => k_dflt (refine' asg_ev (n := 6) ?F ?N ?L ?x ?s ?e ?_; (case F => k_asm); (case N => k_asm); (case L => exact rfl); (case x => exact rfl); (case s => exact rfl); (case e => exact rfl); intro t9 k9 h' m9 F' N'; (try dsimp only); (try k_sweep))
  k_with "storeName" => k_dflt (refine' store_ev ?F ?N ?L ?x ?_; (case F => k_asm); (case N => k_asm); (case L => exact rfl); (case x => exact rfl); intro h' k9 m9 F' N'; (try dsimp only); (try k_sweep))
  k_with "execs cons Return" => (refine flat_ret ?_; intro K9 hK9)
  k_with "execs cons Return" => k_dflt (refine' ret_ev (n := 6) ?F ?e ?_; (case F => k_asm); (case e => exact rfl); intro t9 k9; (try dsimp only))
  k_with "execs cons Expr" => (refine' flat_expr ?_ ?i ?s; (case i => exact rfl); (case s => exact rfl); intro K9 hK9)
  k_with "execs cons Raise" => refine flat_raise ?_
  k_with "execs cons Continue" => refine flat_cont ?_
  k_with "spliced" => plain_pass; k_dflt (refine' args_ev (n := 6) ?F ?e ?_; (case F => k_asm); (case e => exact rfl); intro t9 k9; (try dsimp only [vals, List.cons_append, List.nil_append]))
  k_with "eval Call Name" => plain_pass; k_dflt (refine' callN_ev (n := 6) ?F ?X ?T ?f ?v ?w ?g ?e ?_ ?a ?b ?d; (case F => k_asm); (case e => exact rfl); (case b => exact rfl); (case X => k_asm); (case T => k_asm); (case a => exact rfl); (case f => k_is); (case v => boot_fast); (case w => exact rfl); (case g => decide); (case d => decide); intro t9 k9; (try dsimp only [vals]))
  k_with "eval Call Name" => plain_pass; k_dflt (refine' call_ev (n := 6) ?F ?X ?T ?f ?k ?e ?_ ?a ?b ?d; (case F => k_asm); (case e => exact rfl); (case b => exact rfl); (case X => k_asm); (case T => k_asm); (case a => exact rfl); (case f => k_is); (case k => k_is); (case d => decide); intro t9 k9; (try dsimp only [vals]))
  k_with "call ref" => ((with_reducible show wpAny _ _ (call (Value.ref 51) [Value.bytes _ _]) _ _ _); (refine' bytes_from _ _ _ _ _ _ _ _ _ _ _ _ _ _ _ _ _ _ _ _ ?k1 ?k2 ?k3 ?k4 ?k5 ?kK ?kd ?ku ?_; (case k1 => k_asm); (case k2 => k_asm); (case k3 => k_asm); (case k4 => k_asm); (case k5 => k_asm); (case kK => first | exact rfl | assumption); (case kd => first | (dsimp only [Around.deeper]; omega) | ktr_room); (case ku => first | (dsimp only [Around.deeper]; omega) | ktr_units); intro t9 h9 tk9 F9 N9; (try dsimp only); (try k_fold)))
  k_with "call ref" => ((with_reducible show wpAny _ _ (call (Value.ref 100) [Value.bytes _ _] _) _ _ _); (refine' a2bS _ _ (by first | assumption | (rw [trans_size]; assumption)) _ _ _ _ _ _ _ _ _ _ _ _ _ _ _ _ _ ?k1 ?k2 ?k3 ?k4 ?k5 ?kK ?kd ?ku ?_ ?_; (case k1 => k_asm); (case k2 => k_asm); (case k3 => k_asm); (case k4 => k_asm); (case k5 => k_asm); (case kK => first | exact rfl | assumption); (case kd => first | (dsimp only [Around.deeper]; omega) | ktr_room); (case ku => first | (dsimp only [Around.deeper]; omega) | ktr_units)); (all_goals first | (intro r9 hr9; obtain ⟨l9, hl9, hr9⟩ := Option.map_eq_some_iff.mp hr9; subst hr9; intro t9 h9 tk9 F9 N9; (try dsimp only); (try k_fold)) | (intro hN9 e9 t9 vs9 G9 h9 tk9 FG9 RS9 US9; (try dsimp only))))
  k_with "call ref" => ((with_reducible show wpAny _ _ (call (Value.ref 100) [Value.bytes _ _] _) _ _ _); (refine' a2bN _ _ (by first | assumption | (rw [trans_size]; assumption)) _ _ _ _ _ _ _ _ _ _ _ _ _ _ _ _ _ ?k1 ?k2 ?k3 ?k4 ?k5 ?kK ?kd ?ku ?_ ?_; (case k1 => k_asm); (case k2 => k_asm); (case k3 => k_asm); (case k4 => k_asm); (case k5 => k_asm); (case kK => first | exact rfl | assumption); (case kd => first | (dsimp only [Around.deeper]; omega) | ktr_room); (case ku => first | (dsimp only [Around.deeper]; omega) | ktr_units)); (all_goals first | (intro r9 hr9; obtain ⟨l9, hl9, hr9⟩ := Option.map_eq_some_iff.mp hr9; subst hr9; intro t9 h9 tk9 F9 N9; (try dsimp only); (try k_fold)) | (intro hN9 e9 t9 vs9 G9 h9 tk9 FG9 RS9 US9; (try dsimp only))))
  k_with "getMethod bytes" => first | (with_reducible refine method_translate ?_) | (with_reducible refine method_upper ?_) | (with_reducible refine method_hex ?_)
  k_with "call builtin:bytes.translate" => (refine' translate ?k1 ?k2 ?_; (case k1 => first | exact mkT_size _ _ | decide +kernel | rfl); (case k2 => first | ((try simp only [byteArr_size]); omega) | assumption); intro t9 k9; (try dsimp only))
  k_with "call builtin:bytes.upper" => (refine' upper ?k2 ?_; (case k2 => first | ((try simp only [byteArr_size, Array.size_map, hexCps_size]); omega) | assumption); intro t9 k9; (try dsimp only))
  k_with "call builtin:bytes.hex" => (refine' hex ?k2 ?_; (case k2 => omega); intro t9 k9; (try dsimp only))
  k_with "call builtin:str.encode" => (refine' encode ?k1 ?k2 ?_; (case k1 => exact hexCps_lt _); (case k2 => (show Array.size (hexCps _) ≤ _; rw [hexCps_size]; omega)); intro t9 k9; (try dsimp only))
  k_with "getMethod str" => (with_reducible refine method_encode ?_)
  k_with "getMethod type:bytes" => (refine' method_type ?F ?X ?m (by decide +kernel) ?e ?h ?_; (case F => k_asm); (case X => k_asm); (case m => first | rfl | kernel_rfl); (case e => k_dflt k_is); (case h => k_handed))
  k_with "call builtin:bytes.maketrans" => (refine' maketrans ?k1 ?_; (case k1 => first | exact Eq.symm (by assumption) | assumption | (simp only [List.size_toArray, List.length_cons, List.length_nil]; omega)); intro t9 k9; (try dsimp only))
  k_with "leaving ref" => refine stop ?_
  k_steps
  all_goals first
    | exact retV _ (hret _ (by assumption)) (by k_asm) (by k_asm) (fun p hp => hp) rfl
    | exact Stop.go (raiseOn (hraise (by assumption)) FG1 B1 (by assumption) (by assumption) (by assumption) (fun p hp => hp))
    | (exfalso; omega)
theorem stddec (b : Array UInt8) (tb : Tok) (hb : b.size ≤ 12) : ClaimR prog w p loose mean mg mb 161 4 [.bytes b tb] ((decOut false (KBw.bInts b)).map fun l t => .bytes (byteArr l) t) := by
  dsimp only [ClaimR, RetV, RaiseK]
  intros
  rename_i hret hraise
  refine wpAny_call ?_
  (refine' code_def ?k1 ?k2 ?k3 ?k4 ?k5 ?kA ?kF ?kK ?k6 ?k7 ?k8 ?k9 ?kB ?_ ?c2 ?c3 ?c4 ?c5; (case kA => exact rfl); (case kF => exact rfl); (case kK => assumption); (case k1 => k_asm); (case k2 => k_asm); (case k3 => k_asm); (case k4 => k_asm); (case k5 => k_asm); (case k6 => k_is); (case k7 => k_is); (case k8 => first | (dsimp only [ktrTop]; omega) | ktr_room); (case k9 => first | exact BindsTo.of_eq rfl | exact binds_K (by k_in) rfl (by k_is) rfl rfl rfl); (case c5 => decide); (case kB => exact locs rfl); (case c2 => exact rfl); (case c3 => exact rfl); (case c4 => exact rfl); k_whole; intro g1 L1 h1 FG1 F1 N1 B1 X1 T1; (try dsimp only); (try k_lift B1); (try k_fold))
  (refine hide_defR (P := LeaveK _ _ _ _ _) ?_; intro K9 hR9; (try dsimp only))
  (refine let_around ?_; intro A9)
  k_with_none
  k_with "exec If" => (with_reducible refine wpAny_If ?_)
  k_with "isTrue Compare" => ((with_reducible show wpAny _ _ (isTrue (Expr.Compare (Expr.Name _ _) [CmpOp.Eq] [Expr.Constant (Const.int _) _ _] _) _ _) _ _ _); k_dflt (refine' test_eq ?F ?v ?_ ?a ?b ?d; (case F => k_asm); (case a => rfl); (case b => rfl); (case d => decide); (case v => rfl)); (try dsimp only))
  k_with "isTrue Compare" => ((with_reducible show wpAny _ _ (isTrue (Expr.Compare (Expr.Name _ _) [CmpOp.NotEq] [Expr.Constant (Const.int _) _ _] _) _ _) _ _ _); k_dflt (refine' test_ne ?F ?v ?_ ?a ?b ?d; (case F => k_asm); (case a => rfl); (case b => rfl); (case d => decide); (case v => rfl)); (try dsimp only))
  k_with "isTrue Compare" => ((with_reducible show wpAny _ _ (isTrue (Expr.Compare (Expr.Name _ _) [CmpOp.Lt] [Expr.Constant (Const.int _) _ _] _) _ _) _ _ _); k_dflt (refine' test_lt ?F ?v ?_ ?a ?b ?d; (case F => k_asm); (case a => rfl); (case b => rfl); (case d => decide); (case v => rfl)); (try dsimp only))
  k_with "isTrue Compare" => ((with_reducible show wpAny _ _ (isTrue (Expr.Compare (Expr.Name _ _) [CmpOp.LtE] [Expr.Constant (Const.int _) _ _] _) _ _) _ _ _); k_dflt (refine' test_le ?F ?v ?_ ?a ?b ?d; (case F => k_asm); (case a => rfl); (case b => rfl); (case d => decide); (case v => rfl)); (try dsimp only))
  k_with "isTrue Compare" => ((with_reducible show wpAny _ _ (isTrue (Expr.Compare (Expr.Name _ _) [CmpOp.GtE] [Expr.Constant (Const.int _) _ _] _) _ _) _ _ _); k_dflt (refine' test_ge ?F ?v ?_ ?a ?b ?d; (case F => k_asm); (case a => rfl); (case b => rfl); (case d => decide); (case v => rfl)); (try dsimp only))
  k_with "Thn" => first | (refine hK9 _ _ ?_; (try clear hK9); (try dsimp only)) | (refine hK9 _ ?_; (try clear hK9); (try dsimp only))
  k_with "Rtn" => (refine hR9 _ _ ?_)
  k_with "Trn" => (refine hN9 _ _ ?_; (try dsimp only))
  k_with "ThB" => refine thb_ite ?_
  k_with "ThB true" => (refine hT9 _ ?_; (try clear hT9 hF9); (try dsimp only [List.cons_append, List.nil_append, List.append_nil]))
  k_with "ThB false" => (refine hF9 _ ?_; (try clear hT9 hF9); (try dsimp only [List.cons_append, List.nil_append, List.append_nil]))
  k_with "execs cons If" => (refine flat_if ?_; intro K9 hT9 hF9)
  k_with "execs cons If" => k_dflt ((first | (refine' if_pb (lit := false) (n := 6) ?F ?c ?_ ?_; (case F => k_asm); (case c => exact rfl)) | (refine' if_p (lit := false) (n := 6) ?F ?c ?_ ?_; (case F => k_asm); (case c => exact rfl))); (all_goals (intro k9 hb9; first | (exfalso; omega) | dsimp only [List.cons_append, List.nil_append, List.append_nil] | skip)))
  k_with "execs cons If" => k_dflt ((first | (refine' if_T (lit := true) (n := 6) ?F ?c ?_; (case F => k_asm); (case c => exact rfl)) | (refine' if_F (lit := true) (n := 6) ?F ?c ?_; (case F => k_asm); (case c => exact rfl))); intro k9; (try dsimp only [List.cons_append, List.nil_append, List.append_nil]))
  k_with "execs cons If" => k_dflt (refine' if_p (lit := true) (n := 6) ?F ?c ?_ ?_; (case F => k_asm); (case c => exact rfl); (all_goals (intro k9 hb9; first | (exfalso; omega) | dsimp only [List.cons_append, List.nil_append, List.append_nil] | skip)))
  k_with "execs cons Assign" => ((fail_if_success (with_reducible show wpAny _ _ (execs (Stmt.Assign _ (Expr.ListComp _ _ _ _) _ :: _) _) _ _ _)); refine' flat_asg ?_ ?s; (case s => exact rfl); intro K9 hK9)
  k_with "execs cons Assign" => k_dflt (refine' asg_ev (n := 6) ?F ?N ?L ?x ?s ?e ?_; (case F => k_asm); (case N => k_asm); (case L => exact rfl); (case x => exact rfl); (case s => exact rfl); (case e => exact rfl); intro t9 k9 h' m9 F' N'; (try dsimp only); (try k_sweep))
  k_with "storeName" => k_dflt (refine' store_ev ?F ?N ?L ?x ?_; (case F => k_asm); (case N => k_asm); (case L => exact rfl); (case x => exact rfl); intro h' k9 m9 F' N'; (try dsimp only); (try k_sweep))
  k_with "execs cons Return" => (refine flat_ret ?_; intro K9 hK9)
  k_with "execs cons Return" => k_dflt (refine' ret_ev (n := 6) ?F ?e ?_; (case F => k_asm); (case e => exact rfl); intro t9 k9; (try dsimp only))
  k_with "execs cons Expr" => (refine' flat_expr ?_ ?i ?s; (case i => exact rfl); (case s => exact rfl); intro K9 hK9)
  k_with "execs cons Raise" => refine flat_raise ?_
  k_with "execs cons Continue" => refine flat_cont ?_
  k_with "spliced" => plain_pass; k_dflt (refine' args_ev (n := 6) ?F ?e ?_; (case F => k_asm); (case e => exact rfl); intro t9 k9; (try dsimp only [vals, List.cons_append, List.nil_append]))
  k_with "eval Call Name" => plain_pass; k_dflt (refine' callN_ev (n := 6) ?F ?X ?T ?f ?v ?w ?g ?e ?_ ?a ?b ?d; (case F => k_asm); (case e => exact rfl); (case b => exact rfl); (case X => k_asm); (case T => k_asm); (case a => exact rfl); (case f => k_is); (case v => boot_fast); (case w => exact rfl); (case g => decide); (case d => decide); intro t9 k9; (try dsimp only [vals]))
  k_with "eval Call Name" => plain_pass; k_dflt (refine' call_ev (n := 6) ?F ?X ?T ?f ?k ?e ?_ ?a ?b ?d; (case F => k_asm); (case e => exact rfl); (case b => exact rfl); (case X => k_asm); (case T => k_asm); (case a => exact rfl); (case f => k_is); (case k => k_is); (case d => decide); intro t9 k9; (try dsimp only [vals]))
  k_with "call ref" => ((with_reducible show wpAny _ _ (call (Value.ref 51) [Value.bytes _ _]) _ _ _); (refine' bytes_from _ _ _ _ _ _ _ _ _ _ _ _ _ _ _ _ _ _ _ _ ?k1 ?k2 ?k3 ?k4 ?k5 ?kK ?kd ?ku ?_; (case k1 => k_asm); (case k2 => k_asm); (case k3 => k_asm); (case k4 => k_asm); (case k5 => k_asm); (case kK => first | exact rfl | assumption); (case kd => first | (dsimp only [Around.deeper]; omega) | ktr_room); (case ku => first | (dsimp only [Around.deeper]; omega) | ktr_units); intro t9 h9 tk9 F9 N9; (try dsimp only); (try k_fold)))
  k_with "call ref" => ((with_reducible show wpAny _ _ (call (Value.ref 100) [Value.bytes _ _] _) _ _ _); (refine' a2bS _ _ (by first | assumption | (rw [trans_size]; assumption)) _ _ _ _ _ _ _ _ _ _ _ _ _ _ _ _ _ ?k1 ?k2 ?k3 ?k4 ?k5 ?kK ?kd ?ku ?_ ?_; (case k1 => k_asm); (case k2 => k_asm); (case k3 => k_asm); (case k4 => k_asm); (case k5 => k_asm); (case kK => first | exact rfl | assumption); (case kd => first | (dsimp only [Around.deeper]; omega) | ktr_room); (case ku => first | (dsimp only [Around.deeper]; omega) | ktr_units)); (all_goals first | (intro r9 hr9; obtain ⟨l9, hl9, hr9⟩ := Option.map_eq_some_iff.mp hr9; subst hr9; intro t9 h9 tk9 F9 N9; (try dsimp only); (try k_fold)) | (intro hN9 e9 t9 vs9 G9 h9 tk9 FG9 RS9 US9; (try dsimp only))))
  k_with "call ref" => ((with_reducible show wpAny _ _ (call (Value.ref 100) [Value.bytes _ _] _) _ _ _); (refine' a2bN _ _ (by first | assumption | (rw [trans_size]; assumption)) _ _ _ _ _ _ _ _ _ _ _ _ _ _ _ _ _ ?k1 ?k2 ?k3 ?k4 ?k5 ?kK ?kd ?ku ?_ ?_; (case k1 => k_asm); (case k2 => k_asm); (case k3 => k_asm); (case k4 => k_asm); (case k5 => k_asm); (case kK => first | exact rfl | assumption); (case kd => first | (dsimp only [Around.deeper]; omega) | ktr_room); (case ku => first | (dsimp only [Around.deeper]; omega) | ktr_units)); (all_goals first | (intro r9 hr9; obtain ⟨l9, hl9, hr9⟩ := Option.map_eq_some_iff.mp hr9; subst hr9; intro t9 h9 tk9 F9 N9; (try dsimp only); (try k_fold)) | (intro hN9 e9 t9 vs9 G9 h9 tk9 FG9 RS9 US9; (try dsimp only))))
  k_with "getMethod bytes" => first | (with_reducible refine method_translate ?_) | (with_reducible refine method_upper ?_) | (with_reducible refine method_hex ?_)
  k_with "call builtin:bytes.translate" => (refine' translate ?k1 ?k2 ?_; (case k1 => first | exact mkT_size _ _ | decide +kernel | rfl); (case k2 => first | ((try simp only [byteArr_size]); omega) | assumption); intro t9 k9; (try dsimp only))
  k_with "call builtin:bytes.upper" => (refine' upper ?k2 ?_; (case k2 => first | ((try simp only [byteArr_size, Array.size_map, hexCps_size]); omega) | assumption); intro t9 k9; (try dsimp only))
  k_with "call builtin:bytes.hex" => (refine' hex ?k2 ?_; (case k2 => omega); intro t9 k9; (try dsimp only))
  k_with "call builtin:str.encode" => (refine' encode ?k1 ?k2 ?_; (case k1 => exact hexCps_lt _); (case k2 => (show Array.size (hexCps _) ≤ _; rw [hexCps_size]; omega)); intro t9 k9; (try dsimp only))
  k_with "getMethod str" => (with_reducible refine method_encode ?_)
  k_with "getMethod type:bytes" => (refine' method_type ?F ?X ?m (by decide +kernel) ?e ?h ?_; (case F => k_asm); (case X => k_asm); (case m => first | rfl | kernel_rfl); (case e => k_dflt k_is); (case h => k_handed))
  k_with "call builtin:bytes.maketrans" => (refine' maketrans ?k1 ?_; (case k1 => first | exact Eq.symm (by assumption) | assumption | (simp only [List.size_toArray, List.length_cons, List.length_nil]; omega)); intro t9 k9; (try dsimp only))
  k_with "leaving ref" => refine stop ?_
  k_with "call ref" => ((with_reducible show wpAny _ _ (call (Value.ref 147) [Value.bytes _ _]) _ _ _); (refine' b64dec _ _ (by first | assumption | (rw [trans_size]; assumption)) _ _ _ _ _ _ _ _ _ _ _ _ _ _ _ _ _ ?k1 ?k2 ?k3 ?k4 ?k5 ?kK ?kd ?ku ?_ ?_; (case k1 => k_asm); (case k2 => k_asm); (case k3 => k_asm); (case k4 => k_asm); (case k5 => k_asm); (case kK => first | exact rfl | assumption); (case kd => first | (dsimp only [Around.deeper]; omega) | ktr_room); (case ku => first | (dsimp only [Around.deeper]; omega) | ktr_units)); (all_goals first | (intro r9 hr9; obtain ⟨l9, hl9, hr9⟩ := Option.map_eq_some_iff.mp hr9; subst hr9; intro t9 h9 tk9 F9 N9; (try dsimp only); (try k_fold)) | (intro hN9 e9 t9 vs9 G9 h9 tk9 FG9 RS9 US9; (try dsimp only))))
  k_steps
  all_goals first
    | exact retV _ (hret _ (by assumption)) (by k_asm) (by k_asm) (fun p hp => hp) rfl
    | exact Stop.go (raiseOn (hraise (by assumption)) FG1 B1 (by assumption) (by assumption) (by assumption) (fun p hp => hp))
    | (exfalso; omega)
theorem urldec0 (b : Array UInt8) (tb : Tok) (hb : b.size ≤ 12) : ClaimR prog w p loose mean mg mb 175 4 [.bytes b tb] ((decOut false (KBw.bInts (trans urlT b))).map fun l t => .bytes (byteArr l) t) := by
  dsimp only [ClaimR, RetV, RaiseK]
  intros
  rename_i hret hraise
  refine wpAny_call ?_
  (refine' code_def ?k1 ?k2 ?k3 ?k4 ?k5 ?kA ?kF ?kK ?k6 ?k7 ?k8 ?k9 ?kB ?_ ?c2 ?c3 ?c4 ?c5; (case kA => exact rfl); (case kF => exact rfl); (case kK => assumption); (case k1 => k_asm); (case k2 => k_asm); (case k3 => k_asm); (case k4 => k_asm); (case k5 => k_asm); (case k6 => k_is); (case k7 => k_is); (case k8 => first | (dsimp only [ktrTop]; omega) | ktr_room); (case k9 => first | exact BindsTo.of_eq rfl | exact binds_K (by k_in) rfl (by k_is) rfl rfl rfl); (case c5 => decide); (case kB => exact locs rfl); (case c2 => exact rfl); (case c3 => exact rfl); (case c4 => exact rfl); k_whole; intro g1 L1 h1 FG1 F1 N1 B1 X1 T1; (try dsimp only); (try k_lift B1); (try k_fold))
  (refine hide_defR (P := LeaveK _ _ _ _ _) ?_; intro K9 hR9; (try dsimp only))
  (refine let_around ?_; intro A9)
  k_with_none
  k_with "exec If" => (with_reducible refine wpAny_If ?_)
  k_with "isTrue Compare" => ((with_reducible show wpAny _ _ (isTrue (Expr.Compare (Expr.Name _ _) [CmpOp.Eq] [Expr.Constant (Const.int _) _ _] _) _ _) _ _ _); k_dflt (refine' test_eq ?F ?v ?_ ?a ?b ?d; (case F => k_asm); (case a => rfl); (case b => rfl); (case d => decide); (case v => rfl)); (try dsimp only))
  k_with "isTrue Compare" => ((with_reducible show wpAny _ _ (isTrue (Expr.Compare (Expr.Name _ _) [CmpOp.NotEq] [Expr.Constant (Const.int _) _ _] _) _ _) _ _ _); k_dflt (refine' test_ne ?F ?v ?_ ?a ?b ?d; (case F => k_asm); (case a => rfl); (case b => rfl); (case d => decide); (case v => rfl)); (try dsimp only))
  k_with "isTrue Compare" => ((with_reducible show wpAny _ _ (isTrue (Expr.Compare (Expr.Name _ _) [CmpOp.Lt] [Expr.Constant (Const.int _) _ _] _) _ _) _ _ _); k_dflt (refine' test_lt ?F ?v ?_ ?a ?b ?d; (case F => k_asm); (case a => rfl); (case b => rfl); (case d => decide); (case v => rfl)); (try dsimp only))
  k_with "isTrue Compare" => ((with_reducible show wpAny _ _ (isTrue (Expr.Compare (Expr.Name _ _) [CmpOp.LtE] [Expr.Constant (Const.int _) _ _] _) _ _) _ _ _); k_dflt (refine' test_le ?F ?v ?_ ?a ?b ?d; (case F => k_asm); (case a => rfl); (case b => rfl); (case d => decide); (case v => rfl)); (try dsimp only))
  k_with "isTrue Compare" => ((with_reducible show wpAny _ _ (isTrue (Expr.Compare (Expr.Name _ _) [CmpOp.GtE] [Expr.Constant (Const.int _) _ _] _) _ _) _ _ _); k_dflt (refine' test_ge ?F ?v ?_ ?a ?b ?d; (case F => k_asm); (case a => rfl); (case b => rfl); (case d => decide); (case v => rfl)); (try dsimp only))
  k_with "Thn" => first | (refine hK9 _ _ ?_; (try clear hK9); (try dsimp only)) | (refine hK9 _ ?_; (try clear hK9); (try dsimp only))
  k_with "Rtn" => (refine hR9 _ _ ?_)
  k_with "Trn" => (refine hN9 _ _ ?_; (try dsimp only))
  k_with "ThB" => refine thb_ite ?_
  k_with "ThB true" => (refine hT9 _ ?_; (try clear hT9 hF9); (try dsimp only [List.cons_append, List.nil_append, List.append_nil]))
  k_with "ThB false" => (refine hF9 _ ?_; (try clear hT9 hF9); (try dsimp only [List.cons_append, List.nil_append, List.append_nil]))
  k_with "execs cons If" => (refine flat_if ?_; intro K9 hT9 hF9)
  k_with "execs cons If" => k_dflt ((first | (refine' if_pb (lit := false) (n := 6) ?F ?c ?_ ?_; (case F => k_asm); (case c => exact rfl)) | (refine' if_p (lit := false) (n := 6) ?F ?c ?_ ?_; (case F => k_asm); (case c => exact rfl))); (all_goals (intro k9 hb9; first | (exfalso; omega) | dsimp only [List.cons_append, List.nil_append, List.append_nil] | skip)))
  k_with "execs cons If" => k_dflt ((first | (refine' if_T (lit := true) (n := 6) ?F ?c ?_; (case F => k_asm); (case c => exact rfl)) | (refine' if_F (lit := true) (n := 6) ?F ?c ?_; (case F => k_asm); (case c => exact rfl))); intro k9; (try dsimp only [List.cons_append, List.nil_append, List.append_nil]))
  k_with "execs cons If" => k_dflt (refine' if_p (lit := true) (n := 6) ?F ?c ?_ ?_; (case F => k_asm); (case c => exact rfl); (all_goals (intro k9 hb9; first | (exfalso; omega) | dsimp only [List.cons_append, List.nil_append, List.append_nil] | skip)))
  k_with "execs cons Assign" => ((fail_if_success (with_reducible show wpAny _ _ (execs (Stmt.Assign _ (Expr.ListComp _ _ _ _) _ :: _) _) _ _ _)); refine' flat_asg ?_ ?s; (case s => exact rfl); intro K9 hK9)
  k_with "execs cons Assign" => k_dflt (refine' asg_ev (n := 6) ?F ?N ?L ?x ?s ?e ?_; (case F => k_asm); (case N => k_asm); (case L => exact rfl); (case x => exact rfl); (case s => exact rfl); (case e => exact rfl); intro t9 k9 h' m9 F' N'; (try dsimp only); (try k_sweep))
  k_with "storeName" => k_dflt (refine' store_ev ?F ?N ?L ?x ?_; (case F => k_asm); (case N => k_asm); (case L => exact rfl); (case x => exact rfl); intro h' k9 m9 F' N'; (try dsimp only); (try k_sweep))
  k_with "execs cons Return" => (refine flat_ret ?_; intro K9 hK9)
  k_with "execs cons Return" => k_dflt (refine' ret_ev (n := 6) ?F ?e ?_; (case F => k_asm); (case e => exact rfl); intro t9 k9; (try dsimp only))
  k_with "execs cons Expr" => (refine' flat_expr ?_ ?i ?s; (case i => exact rfl); (case s => exact rfl); intro K9 hK9)
  k_with "execs cons Raise" => refine flat_raise ?_
  k_with "execs cons Continue" => refine flat_cont ?_
  k_with "spliced" => plain_pass; k_dflt (refine' args_ev (n := 6) ?F ?e ?_; (case F => k_asm); (case e => exact rfl); intro t9 k9; (try dsimp only [vals, List.cons_append, List.nil_append]))
  k_with "eval Call Name" => plain_pass; k_dflt (refine' callN_ev (n := 6) ?F ?X ?T ?f ?v ?w ?g ?e ?_ ?a ?b ?d; (case F => k_asm); (case e => exact rfl); (case b => exact rfl); (case X => k_asm); (case T => k_asm); (case a => exact rfl); (case f => k_is); (case v => boot_fast); (case w => exact rfl); (case g => decide); (case d => decide); intro t9 k9; (try dsimp only [vals]))
  k_with "eval Call Name" => plain_pass; k_dflt (refine' call_ev (n := 6) ?F ?X ?T ?f ?k ?e ?_ ?a ?b ?d; (case F => k_asm); (case e => exact rfl); (case b => exact rfl); (case X => k_asm); (case T => k_asm); (case a => exact rfl); (case f => k_is); (case k => k_is); (case d => decide); intro t9 k9; (try dsimp only [vals]))
  k_with "call ref" => ((with_reducible show wpAny _ _ (call (Value.ref 51) [Value.bytes _ _]) _ _ _); (refine' bytes_from _ _ _ _ _ _ _ _ _ _ _ _ _ _ _ _ _ _ _ _ ?k1 ?k2 ?k3 ?k4 ?k5 ?kK ?kd ?ku ?_; (case k1 => k_asm); (case k2 => k_asm); (case k3 => k_asm); (case k4 => k_asm); (case k5 => k_asm); (case kK => first | exact rfl | assumption); (case kd => first | (dsimp only [Around.deeper]; omega) | ktr_room); (case ku => first | (dsimp only [Around.deeper]; omega) | ktr_units); intro t9 h9 tk9 F9 N9; (try dsimp only); (try k_fold)))
  k_with "call ref" => ((with_reducible show wpAny _ _ (call (Value.ref 100) [Value.bytes _ _] _) _ _ _); (refine' a2bS _ _ (by first | assumption | (rw [trans_size]; assumption)) _ _ _ _ _ _ _ _ _ _ _ _ _ _ _ _ _ ?k1 ?k2 ?k3 ?k4 ?k5 ?kK ?kd ?ku ?_ ?_; (case k1 => k_asm); (case k2 => k_asm); (case k3 => k_asm); (case k4 => k_asm); (case k5 => k_asm); (case kK => first | exact rfl | assumption); (case kd => first | (dsimp only [Around.deeper]; omega) | ktr_room); (case ku => first | (dsimp only [Around.deeper]; omega) | ktr_units)); (all_goals first | (intro r9 hr9; obtain ⟨l9, hl9, hr9⟩ := Option.map_eq_some_iff.mp hr9; subst hr9; intro t9 h9 tk9 F9 N9; (try dsimp only); (try k_fold)) | (intro hN9 e9 t9 vs9 G9 h9 tk9 FG9 RS9 US9; (try dsimp only))))
  k_with "call ref" => ((with_reducible show wpAny _ _ (call (Value.ref 100) [Value.bytes _ _] _) _ _ _); (refine' a2bN _ _ (by first | assumption | (rw [trans_size]; assumption)) _ _ _ _ _ _ _ _ _ _ _ _ _ _ _ _ _ ?k1 ?k2 ?k3 ?k4 ?k5 ?kK ?kd ?ku ?_ ?_; (case k1 => k_asm); (case k2 => k_asm); (case k3 => k_asm); (case k4 => k_asm); (case k5 => k_asm); (case kK => first | exact rfl | assumption); (case kd => first | (dsimp only [Around.deeper]; omega) | ktr_room); (case ku => first | (dsimp only [Around.deeper]; omega) | ktr_units)); (all_goals first | (intro r9 hr9; obtain ⟨l9, hl9, hr9⟩ := Option.map_eq_some_iff.mp hr9; subst hr9; intro t9 h9 tk9 F9 N9; (try dsimp only); (try k_fold)) | (intro hN9 e9 t9 vs9 G9 h9 tk9 FG9 RS9 US9; (try dsimp only))))
  k_with "getMethod bytes" => first | (with_reducible refine method_translate ?_) | (with_reducible refine method_upper ?_) | (with_reducible refine method_hex ?_)
  k_with "call builtin:bytes.translate" => (refine' translate ?k1 ?k2 ?_; (case k1 => first | exact mkT_size _ _ | decide +kernel | rfl); (case k2 => first | ((try simp only [byteArr_size]); omega) | assumption); intro t9 k9; (try dsimp only))
  k_with "call builtin:bytes.upper" => (refine' upper ?k2 ?_; (case k2 => first | ((try simp only [byteArr_size, Array.size_map, hexCps_size]); omega) | assumption); intro t9 k9; (try dsimp only))
  k_with "call builtin:bytes.hex" => (refine' hex ?k2 ?_; (case k2 => omega); intro t9 k9; (try dsimp only))
  k_with "call builtin:str.encode" => (refine' encode ?k1 ?k2 ?_; (case k1 => exact hexCps_lt _); (case k2 => (show Array.size (hexCps _) ≤ _; rw [hexCps_size]; omega)); intro t9 k9; (try dsimp only))
  k_with "getMethod str" => (with_reducible refine method_encode ?_)
  k_with "getMethod type:bytes" => (refine' method_type ?F ?X ?m (by decide +kernel) ?e ?h ?_; (case F => k_asm); (case X => k_asm); (case m => first | rfl | kernel_rfl); (case e => k_dflt k_is); (case h => k_handed))
  k_with "call builtin:bytes.maketrans" => (refine' maketrans ?k1 ?_; (case k1 => first | exact Eq.symm (by assumption) | assumption | (simp only [List.size_toArray, List.length_cons, List.length_nil]; omega)); intro t9 k9; (try dsimp only))
  k_with "leaving ref" => refine stop ?_
  k_with "call ref" => ((with_reducible show wpAny _ _ (call (Value.ref 147) [Value.bytes _ _]) _ _ _); (refine' b64dec _ _ (by first | assumption | (rw [trans_size]; assumption)) _ _ _ _ _ _ _ _ _ _ _ _ _ _ _ _ _ ?k1 ?k2 ?k3 ?k4 ?k5 ?kK ?kd ?ku ?_ ?_; (case k1 => k_asm); (case k2 => k_asm); (case k3 => k_asm); (case k4 => k_asm); (case k5 => k_asm); (case kK => first | exact rfl | assumption); (case kd => first | (dsimp only [Around.deeper]; omega) | ktr_room); (case ku => first | (dsimp only [Around.deeper]; omega) | ktr_units)); (all_goals first | (intro r9 hr9; obtain ⟨l9, hl9, hr9⟩ := Option.map_eq_some_iff.mp hr9; subst hr9; intro t9 h9 tk9 F9 N9; (try dsimp only); (try k_fold)) | (intro hN9 e9 t9 vs9 G9 h9 tk9 FG9 RS9 US9; (try dsimp only))))
  k_steps
  all_goals first
    | exact retV _ (hret _ (by assumption)) (by k_asm) (by k_asm) (fun p hp => hp) rfl
    | exact Stop.go (raiseOn (hraise (by assumption)) FG1 B1 (by assumption) (by assumption) (by assumption) (fun p hp => hp))
    | (exfalso; omega)
theorem urldec (b : Array UInt8) (tb : Tok) (hb : b.size ≤ 12) : ClaimR prog w p loose mean mg mb 175 4 [.bytes b tb] ((decOut false (KBw.bInts (trans (mkT #[45, 95] #[43, 47]) b))).map fun l t => .bytes (byteArr l) t) := by
  rw [← urlT_eq]
  exact urldec0 b tb hb
end
end

theorem reset15 : True := by
  w_top off
  k_with_none
  trivial
section
def hexDec : List Int → Option (List Int)
  | [] => some []
  | [_] => none
  | a :: b :: r => if 16 ≤ hexval a ∨ 16 ≤ hexval b then none else (hexDec r).map ((hexval a * 16 + hexval b) :: ·)
theorem hexval_in (c : Int) : 0 ≤ hexval c ∧ hexval c ≤ 16 := by
  unfold hexval
  (repeat' split) <;> omega
theorem hexDec_odd : ∀ bs : List Int, bs.length % 2 = 1 → hexDec bs = none
  | [], h => by simp at h
  | [_], _ => rfl
  | a :: b :: r, h => by
    unfold hexDec
    split
    · rfl
    · rw [hexDec_odd r (by simp only [List.length_cons] at h; omega)]
      rfl
structure HexP (bs out as : List Int) : Prop where
  mk' ::
  i : ∃ k : Nat, as = [(k : Int)] ∧ k ≤ bs.length ∧ k % 2 = 0 ∧ out.length ≤ k ∧ hexDec bs = (hexDec (bs.drop k)).map (out ++ ·)
  r : ∀ v ∈ out, 0 ≤ v ∧ v < 256
theorem HexP.start (bs : List Int) : HexP bs [] [0] := ⟨⟨0, rfl, Nat.zero_le _, rfl, Nat.le_refl _, by simp⟩, fun _ h => nomatch h⟩
theorem drop_two {bs : List Int} {k : Nat} (h : k + 1 < bs.length) : bs.drop k = bs.getD k 0 :: bs.getD (k + 1) 0 :: bs.drop (k + 2) := by
  rw [List.drop_eq_getElem_cons (by omega), List.drop_eq_getElem_cons h]
  simp [List.getD_eq_getElem?_getD, List.getElem?_eq_getElem (show k < bs.length by omega), List.getElem?_eq_getElem h]
theorem HexP.next {bs out : List Int} {k : Nat} (hk : k + 1 < bs.length) (he : k % 2 = 0) (hl : out.length ≤ k) (hr : ∀ v ∈ out, 0 ≤ v ∧ v < 256) (h : hexDec bs = (hexDec (bs.drop k)).map (out ++ ·)) (ha : hexval (bs.getD k 0) < 16) (hb : hexval (bs.getD (k + 1) 0) < 16) :
    HexP bs (out ++ [hexval (bs.getD k 0) * 16 + hexval (bs.getD (k + 1) 0)]) [(k : Int) + 2] := by
  have h1 := hexval_in (bs.getD k 0)
  have h2 := hexval_in (bs.getD (k + 1) 0)
  refine ⟨⟨k + 2, by simp, by omega, by omega, by simp; omega, ?_⟩, in_snoc hr (by omega) (by omega)⟩
  rw [h, drop_two hk]
  conv => lhs; unfold hexDec
  rw [if_neg (by omega), Option.map_map]
  congr 1
  funext l
  simp
theorem HexP.bad {bs out : List Int} {k : Nat} (hk : k + 1 < bs.length) (h : hexDec bs = (hexDec (bs.drop k)).map (out ++ ·)) (hab : 16 ≤ hexval (bs.getD k 0) ∨ 16 ≤ hexval (bs.getD (k + 1) 0)) : hexDec bs = none := by
  rw [h, drop_two hk]
  conv => lhs; unfold hexDec
  rw [if_pos hab]
  rfl
theorem HexP.done {bs out : List Int} {k : Nat} (hk : bs.length ≤ k) (h : hexDec bs = (hexDec (bs.drop k)).map (out ++ ·)) : hexDec bs = some out := by
  rw [h, List.drop_eq_nil_of_le hk]
  simp [hexDec]
theorem whileEnd {h₀ : Heap} {L lo : Addr} {news : List (Addr × Obj)} {ys ks : List Str} {kv : List Value} {P : List Int → List Int → Prop} {μ : List Int → Nat} {n : Nat} {m' : Str → Option Value} {arr : Array Value} {nn : Nat} {s : Shared} {h' : Heap} {tk : Nat} {Q : Flow → Shared → Prop}
    (as : List (Int × Tok)) {out : List Int} (F : Fr h₀ L h' m') (N : News h₀ L h' ((lo, listOf arr nn) :: news)) (hi : IntsAre arr.toList out) (hy : ys.map m' = (as.map iv).map some) (hk : ks.map m' = kv.map some) (hp : P out (as.map (·.1))) (hm : μ (as.map (·.1)) < n) :
    WhileStep2 h₀ L s (WhJ lo news ys ks kv P μ) Q n .next { s with heap := h', toks := tk } :=
  ⟨h', tk, m', _, _, rfl, F, N, hm, .mk m' as out arr.toList nn hi hy hk hp⟩
section
variable {prog : Program} {w : World} {A : Around} {E : Value → Shared → Prop} {s : Shared} {value slice : PySem.Expr} {b : Array UInt8} {t ui : Tok} {Q : Value → Shared → Prop}
theorem item_at {k : Nat} (hk : k < b.size) (hb : b.size ≤ 12) (h : ∀ t' kk, Q (.int ((KBw.bInts b).getD k 0) t') { s with toks := kk })
    (hs : subscripted slice false (.bytes b t) (.int (k : Int) ui) = operate [.bytes b t, .int (k : Int) ui] (getItem (.bytes b t) (.int (k : Int) ui)))
    (ht : ∀ r, letTemporaryGo value (.bytes b t) r = pure ()) : wpAny (model prog w) A (subscriptTail value slice (.bytes b t) (.int (k : Int) ui)) Q E s :=
  KBw.item_K (ks := KBw.bInts b) rfl (by rw [KBw.ints_length]; omega) (by omega) (by rw [KBw.ints_length]; omega) (fun t' kk _ _ => by rw [Int.toNat_natCast]; exact h t' kk) hs ht
theorem item_at1 {k : Nat} (hk : k + 1 < b.size) (hb : b.size ≤ 12) (h : ∀ t' kk, Q (.int ((KBw.bInts b).getD (k + 1) 0) t') { s with toks := kk })
    (hs : subscripted slice false (.bytes b t) (.int ((k : Int) + 1) ui) = operate [.bytes b t, .int ((k : Int) + 1) ui] (getItem (.bytes b t) (.int ((k : Int) + 1) ui)))
    (ht : ∀ r, letTemporaryGo value (.bytes b t) r = pure ()) : wpAny (model prog w) A (subscriptTail value slice (.bytes b t) (.int ((k : Int) + 1) ui)) Q E s :=
  KBw.item_K (ks := KBw.bInts b) rfl (by rw [KBw.ints_length]; omega) (by omega) (by rw [KBw.ints_length]; omega) (fun t' kk _ _ => by rw [show ((k : Int) + 1).toNat = k + 1 by omega]; exact h t' kk) hs ht
end
section
variable {prog : Program} {w : World} {p : Program} {loose : List Str} {mean : ExcName → Option Value} {mg mb : Str → Option Value}
theorem a2bhex (b : Array UInt8) (tb : Tok) (hb : b.size ≤ 12) : ClaimR prog w p loose mean mg mb 131 2 [.bytes b tb] ((hexDec (KBw.bInts b)).map fun l t => .bytes (byteArr l) t) := by
  dsimp only [ClaimR, RetV, RaiseK]
  intros
  rename_i hret hraise
  refine wpAny_call ?_
  (refine' code_def ?k1 ?k2 ?k3 ?k4 ?k5 ?kA ?kF ?kK ?k6 ?k7 ?k8 ?k9 ?kB ?_ ?c2 ?c3 ?c4 ?c5; (case kA => exact rfl); (case kF => exact rfl); (case kK => assumption); (case k1 => k_asm); (case k2 => k_asm); (case k3 => k_asm); (case k4 => k_asm); (case k5 => k_asm); (case k6 => k_is); (case k7 => k_is); (case k8 => first | (dsimp only [ktrTop]; omega) | ktr_room); (case k9 => first | exact BindsTo.of_eq rfl | exact binds_K (by k_in) rfl (by k_is) rfl rfl rfl); (case c5 => decide); (case kB => exact locs rfl); (case c2 => exact rfl); (case c3 => exact rfl); (case c4 => exact rfl); k_whole; intro g1 L1 h1 FG1 F1 N1 B1 X1 T1; (try dsimp only); (try k_lift B1); (try k_fold))
  (refine hide_defR (P := LeaveK _ _ _ _ _) ?_; intro K9 hR9; (try dsimp only))
  (refine let_around ?_; intro A9)
  k_with_none
  k_with "exec If" => (with_reducible refine wpAny_If ?_)
  k_with "isTrue Compare" => ((with_reducible show wpAny _ _ (isTrue (Expr.Compare (Expr.Name _ _) [CmpOp.Eq] [Expr.Constant (Const.int _) _ _] _) _ _) _ _ _); k_dflt (refine' test_eq ?F ?v ?_ ?a ?b ?d; (case F => k_asm); (case a => rfl); (case b => rfl); (case d => decide); (case v => rfl)); (try dsimp only))
  k_with "isTrue Compare" => ((with_reducible show wpAny _ _ (isTrue (Expr.Compare (Expr.Name _ _) [CmpOp.NotEq] [Expr.Constant (Const.int _) _ _] _) _ _) _ _ _); k_dflt (refine' test_ne ?F ?v ?_ ?a ?b ?d; (case F => k_asm); (case a => rfl); (case b => rfl); (case d => decide); (case v => rfl)); (try dsimp only))
  k_with "isTrue Compare" => ((with_reducible show wpAny _ _ (isTrue (Expr.Compare (Expr.Name _ _) [CmpOp.Lt] [Expr.Constant (Const.int _) _ _] _) _ _) _ _ _); k_dflt (refine' test_lt ?F ?v ?_ ?a ?b ?d; (case F => k_asm); (case a => rfl); (case b => rfl); (case d => decide); (case v => rfl)); (try dsimp only))
  k_with "isTrue Compare" => ((with_reducible show wpAny _ _ (isTrue (Expr.Compare (Expr.Name _ _) [CmpOp.LtE] [Expr.Constant (Const.int _) _ _] _) _ _) _ _ _); k_dflt (refine' test_le ?F ?v ?_ ?a ?b ?d; (case F => k_asm); (case a => rfl); (case b => rfl); (case d => decide); (case v => rfl)); (try dsimp only))
  k_with "isTrue Compare" => ((with_reducible show wpAny _ _ (isTrue (Expr.Compare (Expr.Name _ _) [CmpOp.GtE] [Expr.Constant (Const.int _) _ _] _) _ _) _ _ _); k_dflt (refine' test_ge ?F ?v ?_ ?a ?b ?d; (case F => k_asm); (case a => rfl); (case b => rfl); (case d => decide); (case v => rfl)); (try dsimp only))
  k_with "Thn" => first | (refine hK9 _ _ ?_; (try clear hK9); (try dsimp only)) | (refine hK9 _ ?_; (try clear hK9); (try dsimp only))
  k_with "Rtn" => (refine hR9 _ _ ?_)
  k_with "Trn" => (refine hN9 _ _ ?_; (try dsimp only))
  k_with "ThB" => refine thb_ite ?_
  k_with "ThB true" => (refine hT9 _ ?_; (try clear hT9 hF9); (try dsimp only [List.cons_append, List.nil_append, List.append_nil]))
  k_with "ThB false" => (refine hF9 _ ?_; (try clear hT9 hF9); (try dsimp only [List.cons_append, List.nil_append, List.append_nil]))
  k_with "execs cons If" => (refine flat_if ?_; intro K9 hT9 hF9)
  k_with "execs cons If" => k_dflt ((first | (refine' if_pb (lit := false) (n := 6) ?F ?c ?_ ?_; (case F => k_asm); (case c => exact rfl)) | (refine' if_p (lit := false) (n := 6) ?F ?c ?_ ?_; (case F => k_asm); (case c => exact rfl))); (all_goals (intro k9 hb9; first | (exfalso; omega) | dsimp only [List.cons_append, List.nil_append, List.append_nil] | skip)))
  k_with "execs cons If" => k_dflt ((first | (refine' if_T (lit := true) (n := 6) ?F ?c ?_; (case F => k_asm); (case c => exact rfl)) | (refine' if_F (lit := true) (n := 6) ?F ?c ?_; (case F => k_asm); (case c => exact rfl))); intro k9; (try dsimp only [List.cons_append, List.nil_append, List.append_nil]))
  k_with "execs cons If" => k_dflt (refine' if_p (lit := true) (n := 6) ?F ?c ?_ ?_; (case F => k_asm); (case c => exact rfl); (all_goals (intro k9 hb9; first | (exfalso; omega) | dsimp only [List.cons_append, List.nil_append, List.append_nil] | skip)))
  k_with "execs cons Assign" => ((fail_if_success (with_reducible show wpAny _ _ (execs (Stmt.Assign _ (Expr.ListComp _ _ _ _) _ :: _) _) _ _ _)); refine' flat_asg ?_ ?s; (case s => exact rfl); intro K9 hK9)
  k_with "execs cons Assign" => k_dflt (refine' asg_ev (n := 6) ?F ?N ?L ?x ?s ?e ?_; (case F => k_asm); (case N => k_asm); (case L => exact rfl); (case x => exact rfl); (case s => exact rfl); (case e => exact rfl); intro t9 k9 h' m9 F' N'; (try dsimp only); (try k_sweep))
  k_with "storeName" => k_dflt (refine' store_ev ?F ?N ?L ?x ?_; (case F => k_asm); (case N => k_asm); (case L => exact rfl); (case x => exact rfl); intro h' k9 m9 F' N'; (try dsimp only); (try k_sweep))
  k_with "execs cons Return" => (refine flat_ret ?_; intro K9 hK9)
  k_with "execs cons Return" => k_dflt (refine' ret_ev (n := 6) ?F ?e ?_; (case F => k_asm); (case e => exact rfl); intro t9 k9; (try dsimp only))
  k_with "execs cons Expr" => (refine' flat_expr ?_ ?i ?s; (case i => exact rfl); (case s => exact rfl); intro K9 hK9)
  k_with "execs cons Raise" => refine flat_raise ?_
  k_with "execs cons Continue" => refine flat_cont ?_
  k_with "spliced" => plain_pass; k_dflt (refine' args_ev (n := 6) ?F ?e ?_; (case F => k_asm); (case e => exact rfl); intro t9 k9; (try dsimp only [vals, List.cons_append, List.nil_append]))
  k_with "eval Call Name" => plain_pass; k_dflt (refine' callN_ev (n := 6) ?F ?X ?T ?f ?v ?w ?g ?e ?_ ?a ?b ?d; (case F => k_asm); (case e => exact rfl); (case b => exact rfl); (case X => k_asm); (case T => k_asm); (case a => exact rfl); (case f => k_is); (case v => boot_fast); (case w => exact rfl); (case g => decide); (case d => decide); intro t9 k9; (try dsimp only [vals]))
  k_with "eval Call Name" => plain_pass; k_dflt (refine' call_ev (n := 6) ?F ?X ?T ?f ?k ?e ?_ ?a ?b ?d; (case F => k_asm); (case e => exact rfl); (case b => exact rfl); (case X => k_asm); (case T => k_asm); (case a => exact rfl); (case f => k_is); (case k => k_is); (case d => decide); intro t9 k9; (try dsimp only [vals]))
  k_with "call ref" => ((with_reducible show wpAny _ _ (call (Value.ref 71) [Value.bytes _ _]) _ _ _); (refine' ascii_buffer _ _ _ _ _ _ _ _ _ _ _ _ _ _ _ _ _ _ _ _ ?k1 ?k2 ?k3 ?k4 ?k5 ?kK ?kd ?ku ?_; (case k1 => k_asm); (case k2 => k_asm); (case k3 => k_asm); (case k4 => k_asm); (case k5 => k_asm); (case kK => first | exact rfl | assumption); (case kd => first | (dsimp only [Around.deeper]; omega) | ktr_room); (case ku => first | (dsimp only [Around.deeper]; omega) | ktr_units); intro t9 h9 tk9 F9 N9; (try dsimp only); (try k_fold)))
  k_with "call ref" => ((with_reducible show wpAny _ _ (call (Value.ref 124) [Value.int _ _]) _ _ _); (refine' hex_value _ _ _ _ _ _ _ _ _ _ _ _ _ _ _ _ _ _ _ _ ?k1 ?k2 ?k3 ?k4 ?k5 ?kK ?kd ?ku ?_; (case k1 => k_asm); (case k2 => k_asm); (case k3 => k_asm); (case k4 => k_asm); (case k5 => k_asm); (case kK => first | exact rfl | assumption); (case kd => first | (dsimp only [Around.deeper]; omega) | ktr_room); (case ku => first | (dsimp only [Around.deeper]; omega) | ktr_units); intro t9 h9 tk9 F9 N9; (try dsimp only); (try k_fold)))
  k_with "call builtin:list.append" => ((with_reducible show wpAny _ _ (call (Value.builtin "list.append") [Value.ref _, _]) _ _ _); (refine' append_off ?k1 ?k2 ?k3 ?_ ?kz; (case k1 => k_asm); (case k2 => k_asm); (case k3 => assumption); (case kz => ((simp only [Array.size_push, List.size_toArray]); (rw [sizeLine_eq]); omega)); intro h9 F9 N9; (try k_sweep)))
  k_with "binaryOp BitAnd int int" => first | refine and_m2 ?_ | refine and_m4 ?_ | refine and_m6 ?_ | refine and_m16 ?_
  k_with "binaryOp RShift int int" => first | refine shr_k 2 4 (by decide) rfl ?_ | refine shr_k 4 16 (by decide) rfl ?_ | refine shr_k 6 64 (by decide) rfl ?_ | refine shr_k 0 1 (by decide) rfl ?_
  k_with "binaryOp LShift int int" => (first | refine shl_4 ?h0 ?h1 ?_ | refine shl_16 ?h0 ?h1 ?_ | refine shl_64 ?h0 ?h1 ?_ | refine shl_256 ?h0 ?h1 ?_); (case h0 => omega); (case h1 => omega)
  k_with "binaryOp BitOr int int" => (first | refine or_4 ?h0 ?h1 ?h2 ?_ | refine or_16 ?h0 ?h1 ?h2 ?_ | refine or_64 ?h0 ?h1 ?h2 ?_ | refine or_256 ?h0 ?h1 ?h2 ?_); (case h0 => omega); (case h1 => omega); (case h2 => omega)
  k_with "subscriptTail" => ((with_reducible show wpAny _ _ (subscriptTail _ _ (Value.bytes _ _) (Value.int _ _)) _ _ _); (first | refine' item_at ?k1 ?k2 ?_ ?k3 ?k4 | refine' item_at1 ?k1 ?k2 ?_ ?k3 ?k4); (case k1 => omega); (case k2 => assumption); (case k3 => with_unfolding_all rfl); (case k4 => (intro _; with_unfolding_all rfl)); intro t9 k9; (try dsimp only))
  k_with "WhileStep2" => refine stop ?_
  k_with "leaving ref" => refine stop ?_
  k_with "exec While Compare cons nil" => refine stop ?_
  k_steps
  · exact Stop.go (raiseOut (hraise (by rw [hexDec_odd _ (by rw [KBw.ints_length]; have h9 := fdiv_fmod_facts (b.size : Int) 2; omega)]; rfl)) FG1 B1 (by assumption) (by k_asm) (by k_asm) (fun p hp => hp) rfl)
  · have hev : b.size % 2 = 0 := by have h9 := fdiv_fmod_facts (b.size : Int) 2; omega
    have hoff := fun (p : Addr × Obj) hp => Nat.ne_of_lt (‹∀ p ∈ _, p.1 < _› p hp)
    refine Stop.go (whileOut [Str.ofString "i"] [Str.ofString "argbuf", Str.ofString "arglen", Str.ofString "out"] (HexP (KBw.bInts b)) (fun as => b.size - (as.headD 0).toNat) (by k_asm) (by k_asm) IntsAre.nil (as₀ := [(_, _)]) (by rfl) (kv := [_, _, _]) (by rfl) (HexP.start _) ?_ (by passes_own))
    intro u as out vs nn h tk hlen hI hP F2 N2
    obtain ⟨⟨i, t1⟩, rfl⟩ := len1 hlen
    obtain ⟨⟨k, e, hk1, hk2, hk3, hk4⟩, hr⟩ := id hP
    simp only [List.map, List.cons.injEq, and_true] at e
    subst e
    rw [KBw.ints_length] at hk1
    have hvl : vs.length ≤ 100 := by rw [hI.length]; omega
    have hol : out.length ≤ 100 := by omega
    have hx1 := hexval_in ((KBw.bInts b).getD k 0)
    have hx2 := hexval_in ((KBw.bInts b).getD (k + 1) 0)
    simp only [ov, List.map, iv] at F2
    try k_fold
    k_steps
    all_goals first
      | exact retV _ (hret (fun t => .bytes (byteArr out) t) (by rw [HexP.done (by rw [KBw.ints_length]; omega) hk4]; rfl)) (by k_asm) (by k_asm) (fun p hp => .tail _ hp) rfl
      | exact Stop.go (raiseOut (hraise (by rw [HexP.bad (by rw [KBw.ints_length]; omega) hk4 (by omega)]; rfl)) FG1 B1 (by assumption) (by k_asm) (by k_asm) (fun p hp => .tail _ hp) rfl)
      | (refine Stop.go (whileEnd [(_, _)] (by k_asm) (by k_asm) (ints_push (arr := vs.toArray) hI) (by rfl) (by rfl) ?_ ?_)
         · exact HexP.next (by rw [KBw.ints_length]; omega) hk2 hk3 hr hk4 (by omega) (by omega)
         · show b.size - ((k : Int) + 2).toNat < b.size - ((k : Int)).toNat
           omega)
end
end

section
open Sre
def reCode : Array Nat := #[14, 12, 4, 1, 1, 21, 22, 48, 57, 22, 65, 70, 0, 13, 9, 21, 22, 48, 57, 22, 65, 70, 0, 1]
def hexU (c : Nat) : Bool := (48 ≤ c && c ≤ 57) || (65 ≤ c && c ≤ 70)
theorem inSet5 (c : Nat) (seen : Sre.Seen) : ∃ seen', inSet reCode c 24 5 true seen = .ok (!hexU c, seen') := by
  have e : inSet reCode c 24 5 true seen = if (decide (48 ≤ c) && decide (c ≤ 57)) = true then .ok (false, (seen.add 21).add 22) else if (decide (65 ≤ c) && decide (c ≤ 70)) = true then .ok (false, ((seen.add 21).add 22).add 22) else .ok (true, (((seen.add 21).add 22).add 22).add 0) := by kernel_rfl
  rw [e]
  unfold hexU
  cases h1 : (decide (48 ≤ c) && decide (c ≤ 57)) <;> cases h2 : (decide (65 ≤ c) && decide (c ≤ 70)) <;> exact ⟨_, rfl⟩
theorem accepts13 (c : Nat) (seen : Sre.Seen) : ∃ seen', accepts reCode 13 c seen = .ok (!hexU c, seen') := by
  have e : accepts reCode 13 c seen = if (decide (48 ≤ c) && decide (c ≤ 57)) = true then .ok (false, (seen.add 21).add 22) else if (decide (65 ≤ c) && decide (c ≤ 70)) = true then .ok (false, ((seen.add 21).add 22).add 22) else .ok (true, (((seen.add 21).add 22).add 22).add 0) := by kernel_rfl
  rw [e]
  unfold hexU
  cases h1 : (decide (48 ≤ c) && decide (c ≤ 57)) <;> cases h2 : (decide (65 ≤ c) && decide (c ≤ 70)) <;> exact ⟨_, rfl⟩
theorem admitted_of (m : M) (hc : m.code = reCode) : ∀ (fuel s : Nat) (seen : Sre.Seen), m.lim + 1 ≤ s + fuel →
    (∃ seen', m.admitted fuel s seen = .ok (none, seen') ∧ ∀ i, s ≤ i → i < m.lim → hexU (m.text.getD i 0) = true) ∨
    (∃ s' seen', m.admitted fuel s seen = .ok (some s', seen') ∧ s ≤ s' ∧ s' < m.lim ∧ hexU (m.text.getD s' 0) = false) := by
  intro fuel
  induction fuel with
  | zero => intro s seen h; exact .inl ⟨seen, rfl, fun i h1 h2 => absurd h2 (by omega)⟩
  | succ n ih =>
    intro s seen h
    by_cases hs : s ≥ m.lim
    · exact .inl ⟨seen, by unfold M.admitted; rw [if_pos hs], fun i h1 h2 => absurd h2 (by omega)⟩
    · obtain ⟨seen1, e⟩ := inSet5 (m.text.getD s 0) seen
      have e' : inSet m.code (m.text.getD s 0) m.code.size 5 true seen = .ok (!hexU (m.text.getD s 0), seen1) := by rw [hc]; exact e
      cases hx : hexU (m.text.getD s 0) with
      | false =>
        rw [hx] at e'
        exact .inr ⟨s, seen1, by unfold M.admitted; rw [if_neg hs, e']; rfl, Nat.le_refl _, by omega, hx⟩
      | true =>
        rw [hx] at e'
        have e2 : m.admitted (n + 1) s seen = m.admitted n (s + 1) seen1 := by
          rw [show m.admitted (n + 1) s seen = (if s ≥ m.lim then .ok (none, seen) else match inSet m.code (m.text.getD s 0) m.code.size 5 true seen with | .ok (true, seen) => .ok (some s, seen) | .ok (false, seen) => m.admitted n (s + 1) seen | .error why => .error why) from rfl, if_neg hs, e']
          rfl
        rcases ih (s + 1) seen1 (by omega) with ⟨sn, h1, h2⟩ | ⟨s', sn, h1, h2, h3, h4⟩
        · refine .inl ⟨sn, by rw [e2]; exact h1, fun i hi hl => ?_⟩
          by_cases he : i = s
          · rw [he]; exact hx
          · exact h2 i (by omega) hl
        · exact .inr ⟨s', sn, by rw [e2]; exact h1, by omega, h3, h4⟩
def reM0 (text : Array Nat) (lim s : Nat) (sn : Sre.Seen) : M :=
  { code := reCode, text := text, lim := lim, start := s, lastStart := lim, pc := 13, pos := s, handed := s, marks := Array.replicate 0 none, frames := [{ wait := .nextStart, pc := 13, pos := s, outermost := true }], weight := 1, seen := sn }
theorem re_run (text : Array Nat) (lim s : Nat) (sn : Sre.Seen) (h : s < lim) (hx : hexU (text.getD s 0) = false) : ((reM0 text lim s sn).runFor 4).outcome = some .matched := by
  obtain ⟨sn', e⟩ := accepts13 (text.getD s 0) (sn.add 13)
  rw [hx] at e
  have h1 : (reM0 text lim s sn).step = { reM0 text lim s sn with seen := sn', pc := 23, pos := s + 1 } := by
    show (if s ≥ lim then _ else match accepts reCode 13 (text.getD s 0) (sn.add 13) with | .error why => _ | .ok (false, seen) => _ | .ok (true, seen) => _) = _
    rw [if_neg (by omega), e]
    rfl
  show ((M.runFor 3 (reM0 text lim s sn).step)).outcome = _
  rw [h1]
  rfl
theorem re_failed (m : M) (ho : m.outcome = none) (ha : m.answer = some false) (hf : m.frames = []) : (m.runFor 4).outcome = some .failed := by
  obtain ⟨_, _, _, _, _, _, _, _, _, _, _, _, _, _, _, _, _, _, _, _, _⟩ := m
  simp only at ho ha hf
  subst ho ha hf
  rfl
theorem re_search (text : Array Nat) : ((forSearch reCode text 0 0 text.size false).runFor 4).outcome = some (if ∀ i, i < text.size → hexU (text.getD i 0) = true then .failed else .matched) := by
  by_cases hz : text.size = 0
  · rw [hz, if_pos (fun i hi => absurd hi (by omega))]
    rfl
  · have e0 : forSearch reCode text 0 0 text.size false = M.attemptFrom { code := reCode, text := text, lim := text.size, start := 0, lastStart := text.size, pc := 13, pos := 0, handed := 0, marks := Array.replicate 0 none, seen := ({} : Sre.Seen).add 14 } 0 true := by
      show (if (decide (0 > text.size) || decide (text.size - 0 < 1)) = true then _ else _) = _
      rw [if_neg (by simp only [Bool.or_eq_true, decide_eq_true_eq]; omega)]
      rfl
    rw [e0]
    generalize hm : ({ code := reCode, text := text, lim := text.size, start := 0, lastStart := text.size, pc := 13, pos := 0, handed := 0, marks := Array.replicate 0 none, seen := ({} : Sre.Seen).add 14 } : M) = m
    have hl : m.lim = text.size := by rw [← hm]
    have ht : m.text = text := by rw [← hm]
    have ha := admitted_of m (by rw [← hm]) (m.lim + 1 - 0) 0 m.seen (by omega)
    rw [hl, ht] at ha
    rcases ha with ⟨sn, h1, h2⟩ | ⟨s', sn, h1, _, h3, h4⟩
    · rw [if_pos (fun i hi => h2 i (Nat.zero_le _) hi)]
      have e1 : m.attemptFrom 0 true = { m with seen := sn }.say false := by
        subst hm
        show (match M.admitted _ (text.size + 1 - 0) 0 _ with | .ok (some s, seen) => _ | .ok (none, seen) => _ | .error why => _) = _
        rw [h1]
      rw [e1]
      subst hm
      exact re_failed _ rfl rfl rfl
    · rw [if_neg (fun hall => by rw [hall s' h3] at h4; cases h4)]
      have e1 : m.attemptFrom 0 true = reM0 text text.size s' sn := by
        subst hm
        show (match M.admitted _ (text.size + 1 - 0) 0 _ with | .ok (some s, seen) => _ | .ok (none, seen) => _ | .error why => _) = _
        rw [h1]
        rfl
      rw [e1]
      exact re_run text text.size s' sn h3 h4
end

section
open Builtin Builtin.Re
def reTup : Obj := { cls := .type "tuple", data := .seq #[.int 14 0, .int 12 0, .int 4 0, .int 1 0, .int 1 0, .int 21 0, .int 22 0, .int 48 0, .int 57 0, .int 22 0, .int 65 0, .int 70 0, .int 0 0, .int 13 0, .int 9 0, .int 21 0, .int 22 0, .int 48 0, .int 57 0, .int 22 0, .int 65 0, .int 70 0, .int 0 0, .int 1 0] 0 }
def rePat : Obj := { cls := .type "re.Pattern", data := .fields #[.bytes #[91, 94, 48, 45, 57, 65, 45, 70, 93] 292, .int 0 319, .int 0 0, .none, .none, .ref 42, .int 1 0] }
theorem plain_pat : PlainAttrs "re.Pattern" :=
  ⟨⟨"object.__getattribute__", by rw [typeLookup_type, builtinLookup_eq_fast]; kernel_rfl, by decide +kernel⟩, by rw [typeLookup_type, builtinLookup_eq_fast]; kernel_rfl⟩
theorem slot_search : Slot "re.Pattern" "search" "re.Pattern.search" :=
  .of (owner := "re.Pattern") (n := "search") (by rw [typeLookup_type, builtinLookup_eq_fast]; kernel_rfl) (by decide +kernel) (by decide +kernel) (by decide +kernel)
    (by first | exact .inl (by decide +kernel) | exact .inr (by decide +kernel)) (by rw [isSubtype_type]; kernel_rfl)
theorem type_search : typeOf (.builtin "re.Pattern.search") = pure (.type "method_descriptor") := by show builtinType _ = _; rw [builtinType_eq_fast]; kernel_rfl
theorem entry_search : entryFor table "re.Pattern.search" = some Builtin.«re.Pattern.search» := entryFor_of_tree (by kernel_rfl)
theorem args_search (a b : Value) : argsOk "re.Pattern.search" ⟨[a, b], []⟩ := by unfold argsOk; kernel_rfl
section
variable {prog : Program} {w : World} {A : Around} {E : Value → Shared → Prop} {s : Shared} {b : Array UInt8} {t : Tok}
theorem type_pat (ho : s.heap.get? 43 = some rePat) : s.TypeIs (.ref 43) "re.Pattern" := ⟨_, ho, rfl⟩
theorem method_search {M : Model} {pl : Sem Bool} {Q : Value × List Value → Shared → Prop} (ho : s.heap.get? 43 = some rePat) (h : Q (.builtin "re.Pattern.search", [.ref 43]) s) : wpAny M A (getMethod (.ref 43) "search" pl) Q E s :=
  getMethod_builtin (type_pat ho) plain_pat slot_search type_search (fun a e => by cases e; exact ⟨_, ho, rfl⟩) h
theorem textOf_eq : reTextOf (.bytes b t) = pure (b.map (·.toNat), 1) := by
  unfold reTextOf Bytes.bufferQuiet?
  rw [KBy.buffer_eq]
  rfl
theorem noColl_eq : reNoCollectionInside (.bytes b t) 1 = pure () := by kernel_rfl
theorem forRules {M : Model} {l : List Nat} {c : Nat → Bool} {nm : Nat → String} {Q : PUnit → Shared → Prop} (h : Q ⟨⟩ s) : wpAny M A (forIn l PUnit.unit fun i r => if c i = true then (rule (nm i) >>= fun _ => pure (ForInStep.yield PUnit.unit)) else pure (ForInStep.yield PUnit.unit)) Q E s := by
  induction l with
  | nil => exact wpAny_pure h
  | cons i l ih =>
    rw [List.forIn_cons]
    refine wpAny_bind ?_
    cases c i with
    | true => exact wpAny_bind (wpAny_rule (wpAny_pure ih))
    | false => exact wpAny_pure ih
theorem drive_succ (n : Nat) (m : Sre.M) : reDrive (n + 1) m = (if (m.runFor 4).outcome.isSome = true then pure (m.runFor 4) else (rule "sre.turn" >>= fun _ => reDrive n (m.runFor 4))) := rfl
theorem drive_at {m : Sre.M} (h : (m.runFor 4).outcome.isSome = true) (k n : Nat) (e : k = n + 1) : reDrive k m = pure (m.runFor 4) := by
  subst e
  rw [drive_succ, if_pos h]
theorem drive_eq {m : Sre.M} (h : (m.runFor 4).outcome.isSome = true) : reDrive (2 ^ 64) m = pure (m.runFor 4) := drive_at h (2 ^ 64) 18446744073709551615 (by decide +kernel)
theorem runToEnd {m : Sre.M} {o : Sre.Outcome} {Q : Option Sre.M → Shared → Prop} (ho : (m.runFor 4).outcome = some o) (h : match o with | .matched => Q (some (m.runFor 4)) s | .failed => Q none s | .stuck _ => False) :
    wpAny (model prog w) A (reRunToEnd m) Q E s := by
  unfold reRunToEnd
  refine wpAny_bind (wpAny_of_eq (drive_eq (by rw [ho]; rfl)) ?_)
  refine wpAny_bind (forRules ?_)
  rw [ho]
  cases o with
  | matched => exact wpAny_pure h
  | failed => exact wpAny_pure h
  | stuck _ => exact h.elim
end
end

section
open Builtin Builtin.Re
section
variable {prog : Program} {w : World} {A : Around} {E : Value → Shared → Prop} {s : Shared} {b : Array UInt8} {t : Tok}
theorem answer_of {P : Fin → Shared → Prop} (a : ReTarget) (text : Array Nat) (hc : a.code = reCode) (hx : a.text = text) (hg : a.groups = 0) (hp : a.pos = 0) (hl : a.lim = text.size)
    (h0 : (∀ i, i < text.size → hexU (text.getD i 0) = true) → P (.done (.ret .none)) s)
    (h1 : ¬ (∀ i, i < text.size → hexU (text.getD i 0) = true) → ∀ o1 o2 : Obj, o1.isFreed = false → o2.isFreed = false → o2.cls = .type "re.Match" → (∃ vs, o2.data = .fields vs) → o2.dict = none → P (.done (.ret (.ref (s.heap.push o1).objs.size))) { s with heap := (s.heap.push o1).push o2 }) :
    wpAny (model prog w) A (reAnswer a (Sre.forSearch a.code a.text a.groups a.pos a.lim false)) P E s := by
  rw [hc, hx, hg, hp, hl]
  unfold reAnswer
  have hm := re_search text
  by_cases hh : ∀ i, i < text.size → hexU (text.getD i 0) = true
  · rw [if_pos hh] at hm
    exact wpAny_bind (runToEnd hm (wpAny_pure (h0 hh)))
  · rw [if_neg hh] at hm
    refine wpAny_bind (runToEnd hm ?_)
    dsimp only
    refine wpAny_bind ?_
    rw [hg, hp, hl]
    unfold reNewMatch
    refine wpAny_bind (wpAny_newObj_type (wpAny_newObj_type ?_ ?_) ?_)
    · exact wpAny_pure (h1 hh _ _ rfl rfl rfl ⟨_, rfl⟩ rfl)
    · show (6 : Nat) ≤ sizeLine + 2
      rw [sizeLine_eq]
      decide
    · show (_ : Nat) ≤ sizeLine
      rw [sizeLine_eq]
      simp
theorem run_search {P : Fin → Shared → Prop} (ho : s.heap.get? 43 = some rePat) (ht : s.heap.get? 42 = some reTup) (hsz : b.size ≤ 12)
    (h0 : (∀ i, i < b.size → hexU ((b.map (·.toNat)).getD i 0) = true) → P (.done (.ret .none)) s)
    (h1 : ¬ (∀ i, i < b.size → hexU ((b.map (·.toNat)).getD i 0) = true) → ∀ o1 o2 : Obj, o1.isFreed = false → o2.isFreed = false → o2.cls = .type "re.Match" → (∃ vs, o2.data = .fields vs) → o2.dict = none → P (.done (.ret (.ref (s.heap.push o1).objs.size))) { s with heap := (s.heap.push o1).push o2 }) :
    wpAny (model prog w) A («re.Pattern.search» ⟨[.ref 43, .bytes b t], []⟩) P E s := by
  show wpAny _ _ (reTarget "re.Pattern.search" "search" ⟨[.ref 43, .bytes b t], []⟩ >>= fun t => _) _ _ s
  refine wpAny_bind ?_
  show wpAny _ _ (fieldsOf (.ref 43) >>= fun fs => _) _ _ s
  refine wpAny_bind (wpAny_fieldsOf ho rfl ?_)
  refine wpAny_bind (wpAny_of_eq textOf_eq ?_)
  show wpAny _ _ (reNoCollectionInside (.bytes b t) 1 >>= fun _ => _) _ _ s
  refine wpAny_bind (wpAny_of_eq noColl_eq ?_)
  refine wpAny_bind ?_
  show wpAny _ _ (seqItems? (.ref 42) >>= fun x => _) _ _ s
  refine wpAny_bind (wpAny_seqItems ht rfl ?_)
  refine wpAny_pure (wpAny_pure ?_)
  have hs0 : (b.map (·.toNat)).size = b.size := Array.size_map
  refine answer_of _ (b.map (·.toNat)) (by dsimp only; decide +kernel) rfl (by dsimp only; decide +kernel) (by simp) ?_ (by rw [hs0]; exact h0) (by rw [hs0]; exact h1)
  exact Nat.min_eq_right (Nat.le_trans (Nat.le_of_eq hs0) (Nat.le_trans hsz (by decide +kernel)))
end
end

theorem reset17 : True := by
  w_top off
  k_with_none
  trivial
section
theorem upped_size (b : Array UInt8) : (upped b).size = b.size := by unfold upped; simp
/-- all signs of the row are figures of base 16 -/
def allHex (b : Array UInt8) : Bool := (KBw.bInts b).all fun c => decide (48 ≤ c ∧ c ≤ 57) || decide (65 ≤ c ∧ c ≤ 70)
theorem allHex_iff (b : Array UInt8) : (∀ i, i < b.size → hexU ((b.map (·.toNat)).getD i 0) = true) ↔ allHex b = true := by
  have key : ∀ c : UInt8, hexU c.toNat = (decide (48 ≤ (c.toNat : Int) ∧ (c.toNat : Int) ≤ 57) || decide (65 ≤ (c.toNat : Int) ∧ (c.toNat : Int) ≤ 70)) := fun c => by
    unfold hexU
    rw [← Bool.decide_and, ← Bool.decide_and]
    congr 1 <;> exact decide_eq_decide.mpr (by omega)
  unfold allHex KBw.bInts
  rw [List.all_map, List.all_eq_true]
  constructor
  · intro h c hc
    obtain ⟨i, hi, rfl⟩ := List.getElem_of_mem hc
    have h1 := h i (by simpa using hi)
    simp only [Function.comp_apply]
    rw [← key]
    simpa [Array.getD_eq_getD_getElem?, show i < b.size by simpa using hi] using h1
  · intro h i hi
    have h1 := h (b[i]) (by simp)
    simp only [Function.comp_apply] at h1
    rw [← key] at h1
    simpa [Array.getD_eq_getD_getElem?, hi] using h1
section
variable {prog : Program} {w : World} {A : Around} {E : Value → Shared → Prop} {s : Shared} {b : Array UInt8} {t : Tok} {h₀ : Heap} {L : Addr} {m : Str → Option Value} {news : List (Addr × Obj)} {Q : Value → Shared → Prop}
theorem search_K (F : Fr h₀ L s.heap m) (N : News h₀ L s.heap news) (ho : s.heap.get? 43 = some rePat) (ht : s.heap.get? 42 = some reTup) (hsz : b.size ≤ 12)
    (h0 : allHex b = true → Q .none s)
    (h1 : allHex b = false → ∀ (x : Addr) (o : Obj) (h' : Heap), o.cls = .type "re.Match" → Fr h₀ L h' m → News h₀ L h' ((x, o) :: news) → Q (.ref x) { s with heap := h' }) :
    wpAny (model prog w) A (call (.builtin "re.Pattern.search") [.ref 43, .bytes b t]) Q E s := by
  refine call_meets slot_search (type_pat ho) entry_search (args_search _ _) (S := fun A R s₁ => s₁ = s ∧ R = wants Q E) (.of_wp fun prog w A R s₁ hS => ?_) ⟨rfl, rfl⟩
  obtain ⟨rfl, rfl⟩ := hS
  refine run_search ho ht hsz (fun h => ⟨_, rfl, h0 ((allHex_iff b).mp h)⟩) fun h o1 o2 f1 f2 hc _ _ => ⟨_, rfl, ?_⟩
  refine h1 (by cases e : allHex b with | false => rfl | true => exact absurd ((allHex_iff b).mpr e) h) _ o2 _ hc ((F.push o1).push o2) fun p hp => ?_
  have N1 := News.push (F.push o1) (News.push F N o1 f1) o2 f2
  rcases List.mem_cons.mp hp with rfl | hp
  · exact N1 _ (.head _)
  · exact N1 _ (.tail _ (.tail _ hp))
theorem truthy_match {x : Addr} {o : Obj} {Q : Bool → Shared → Prop} (hx : s.heap.get? x = some o) (hc : o.cls = .type "re.Match") (h : Q true s) : wpAny (model prog w) A (truthy (.ref x)) Q E s := by
  have hT : s.TypeIs (.ref x) "re.Match" := ⟨o, hx, hc⟩
  have n1 : typeLookup (.type "re.Match") "__bool__" = pure none := by rw [typeLookup_type, builtinLookup_eq_fast]; kernel_rfl
  have n2 : typeLookup (.type "re.Match") "__len__" = pure none := by rw [typeLookup_type, builtinLookup_eq_fast]; kernel_rfl
  unfold truthy
  first
    | refine wpAny_bind (wpAny_callSpecial?_none (name := Str.ofString "__bool__") hT n1 ?_)
    | refine wpAny_bind (wpAny_pure (wpAny_bind (wpAny_callSpecial?_none (name := Str.ofString "__bool__") hT n1 ?_)))
  first
    | refine wpAny_bind (wpAny_specialOf (name := Str.ofString "__len__") hT n2 ?_)
    | refine wpAny_bind (wpAny_pure (wpAny_bind (wpAny_specialOf (name := Str.ofString "__len__") hT n2 ?_)))
  exact wpAny_pure h
end
section
variable {prog : Program} {w : World} {p : Program} {loose : List Str} {mean : ExcName → Option Value} {mg mb : Str → Option Value}
theorem b16dec (b : Array UInt8) (tb : Tok) (hb : b.size ≤ 12) : ClaimR prog w p loose mean mg mb 190 3 [.bytes b tb] ((if allHex b = true then hexDec (KBw.bInts b) else none).map fun l t => .bytes (byteArr l) t) := by
  dsimp only [ClaimR, RetV, RaiseK]
  intros
  rename_i hret hraise
  refine wpAny_call ?_
  (refine' code_def ?k1 ?k2 ?k3 ?k4 ?k5 ?kA ?kF ?kK ?k6 ?k7 ?k8 ?k9 ?kB ?_ ?c2 ?c3 ?c4 ?c5; (case kA => exact rfl); (case kF => exact rfl); (case kK => assumption); (case k1 => k_asm); (case k2 => k_asm); (case k3 => k_asm); (case k4 => k_asm); (case k5 => k_asm); (case k6 => k_is); (case k7 => k_is); (case k8 => first | (dsimp only [ktrTop]; omega) | ktr_room); (case k9 => first | exact BindsTo.of_eq rfl | exact binds_K (by k_in) rfl (by k_is) rfl rfl rfl); (case c5 => decide); (case kB => exact locs rfl); (case c2 => exact rfl); (case c3 => exact rfl); (case c4 => exact rfl); k_whole; intro g1 L1 h1 FG1 F1 N1 B1 X1 T1; (try dsimp only); (try k_lift B1); (try k_fold))
  (refine hide_defR (P := LeaveK _ _ _ _ _) ?_; intro K9 hR9; (try dsimp only))
  (refine let_around ?_; intro A9)
  k_with_none
  k_with "exec If" => (with_reducible refine wpAny_If ?_)
  k_with "isTrue Compare" => ((with_reducible show wpAny _ _ (isTrue (Expr.Compare (Expr.Name _ _) [CmpOp.Eq] [Expr.Constant (Const.int _) _ _] _) _ _) _ _ _); k_dflt (refine' test_eq ?F ?v ?_ ?a ?b ?d; (case F => k_asm); (case a => rfl); (case b => rfl); (case d => decide); (case v => rfl)); (try dsimp only))
  k_with "isTrue Compare" => ((with_reducible show wpAny _ _ (isTrue (Expr.Compare (Expr.Name _ _) [CmpOp.NotEq] [Expr.Constant (Const.int _) _ _] _) _ _) _ _ _); k_dflt (refine' test_ne ?F ?v ?_ ?a ?b ?d; (case F => k_asm); (case a => rfl); (case b => rfl); (case d => decide); (case v => rfl)); (try dsimp only))
  k_with "isTrue Compare" => ((with_reducible show wpAny _ _ (isTrue (Expr.Compare (Expr.Name _ _) [CmpOp.Lt] [Expr.Constant (Const.int _) _ _] _) _ _) _ _ _); k_dflt (refine' test_lt ?F ?v ?_ ?a ?b ?d; (case F => k_asm); (case a => rfl); (case b => rfl); (case d => decide); (case v => rfl)); (try dsimp only))
  k_with "isTrue Compare" => ((with_reducible show wpAny _ _ (isTrue (Expr.Compare (Expr.Name _ _) [CmpOp.LtE] [Expr.Constant (Const.int _) _ _] _) _ _) _ _ _); k_dflt (refine' test_le ?F ?v ?_ ?a ?b ?d; (case F => k_asm); (case a => rfl); (case b => rfl); (case d => decide); (case v => rfl)); (try dsimp only))
  k_with "isTrue Compare" => ((with_reducible show wpAny _ _ (isTrue (Expr.Compare (Expr.Name _ _) [CmpOp.GtE] [Expr.Constant (Const.int _) _ _] _) _ _) _ _ _); k_dflt (refine' test_ge ?F ?v ?_ ?a ?b ?d; (case F => k_asm); (case a => rfl); (case b => rfl); (case d => decide); (case v => rfl)); (try dsimp only))
  k_with "Thn" => first | (refine hK9 _ _ ?_; (try clear hK9); (try dsimp only)) | (refine hK9 _ ?_; (try clear hK9); (try dsimp only))
  k_with "Rtn" => (refine hR9 _ _ ?_)
  k_with "Trn" => (refine hN9 _ _ ?_; (try dsimp only))
  k_with "ThB" => refine thb_ite ?_
  k_with "ThB true" => (refine hT9 _ ?_; (try clear hT9 hF9); (try dsimp only [List.cons_append, List.nil_append, List.append_nil]))
  k_with "ThB false" => (refine hF9 _ ?_; (try clear hT9 hF9); (try dsimp only [List.cons_append, List.nil_append, List.append_nil]))
  k_with "execs cons If" => (refine flat_if ?_; intro K9 hT9 hF9)
  k_with "execs cons If" => k_dflt ((first | (refine' if_pb (lit := false) (n := 6) ?F ?c ?_ ?_; (case F => k_asm); (case c => exact rfl)) | (refine' if_p (lit := false) (n := 6) ?F ?c ?_ ?_; (case F => k_asm); (case c => exact rfl))); (all_goals (intro k9 hb9; first | (exfalso; omega) | dsimp only [List.cons_append, List.nil_append, List.append_nil] | skip)))
  k_with "execs cons If" => k_dflt ((first | (refine' if_T (lit := true) (n := 6) ?F ?c ?_; (case F => k_asm); (case c => exact rfl)) | (refine' if_F (lit := true) (n := 6) ?F ?c ?_; (case F => k_asm); (case c => exact rfl))); intro k9; (try dsimp only [List.cons_append, List.nil_append, List.append_nil]))
  k_with "execs cons If" => k_dflt (refine' if_p (lit := true) (n := 6) ?F ?c ?_ ?_; (case F => k_asm); (case c => exact rfl); (all_goals (intro k9 hb9; first | (exfalso; omega) | dsimp only [List.cons_append, List.nil_append, List.append_nil] | skip)))
  k_with "execs cons Assign" => ((fail_if_success (with_reducible show wpAny _ _ (execs (Stmt.Assign _ (Expr.ListComp _ _ _ _) _ :: _) _) _ _ _)); refine' flat_asg ?_ ?s; (case s => exact rfl); intro K9 hK9)
  k_with "execs cons Assign" => k_dflt (refine' asg_ev (n := 6) ?F ?N ?L ?x ?s ?e ?_; (case F => k_asm); (case N => k_asm); (case L => exact rfl); (case x => exact rfl); (case s => exact rfl); (case e => exact rfl); intro t9 k9 h' m9 F' N'; (try dsimp only); (try k_sweep))
  k_with "storeName" => k_dflt (refine' store_ev ?F ?N ?L ?x ?_; (case F => k_asm); (case N => k_asm); (case L => exact rfl); (case x => exact rfl); intro h' k9 m9 F' N'; (try dsimp only); (try k_sweep))
  k_with "execs cons Return" => (refine flat_ret ?_; intro K9 hK9)
  k_with "execs cons Return" => k_dflt (refine' ret_ev (n := 6) ?F ?e ?_; (case F => k_asm); (case e => exact rfl); intro t9 k9; (try dsimp only))
  k_with "execs cons Expr" => (refine' flat_expr ?_ ?i ?s; (case i => exact rfl); (case s => exact rfl); intro K9 hK9)
  k_with "execs cons Raise" => refine flat_raise ?_
  k_with "execs cons Continue" => refine flat_cont ?_
  k_with "spliced" => plain_pass; k_dflt (refine' args_ev (n := 6) ?F ?e ?_; (case F => k_asm); (case e => exact rfl); intro t9 k9; (try dsimp only [vals, List.cons_append, List.nil_append]))
  k_with "eval Call Name" => plain_pass; k_dflt (refine' callN_ev (n := 6) ?F ?X ?T ?f ?v ?w ?g ?e ?_ ?a ?b ?d; (case F => k_asm); (case e => exact rfl); (case b => exact rfl); (case X => k_asm); (case T => k_asm); (case a => exact rfl); (case f => k_is); (case v => boot_fast); (case w => exact rfl); (case g => decide); (case d => decide); intro t9 k9; (try dsimp only [vals]))
  k_with "eval Call Name" => plain_pass; k_dflt (refine' call_ev (n := 6) ?F ?X ?T ?f ?k ?e ?_ ?a ?b ?d; (case F => k_asm); (case e => exact rfl); (case b => exact rfl); (case X => k_asm); (case T => k_asm); (case a => exact rfl); (case f => k_is); (case k => k_is); (case d => decide); intro t9 k9; (try dsimp only [vals]))
  k_with "call ref" => ((with_reducible show wpAny _ _ (call (Value.ref 51) [Value.bytes _ _]) _ _ _); (refine' bytes_from _ _ _ _ _ _ _ _ _ _ _ _ _ _ _ _ _ _ _ _ ?k1 ?k2 ?k3 ?k4 ?k5 ?kK ?kd ?ku ?_; (case k1 => k_asm); (case k2 => k_asm); (case k3 => k_asm); (case k4 => k_asm); (case k5 => k_asm); (case kK => first | exact rfl | assumption); (case kd => first | (dsimp only [Around.deeper]; omega) | ktr_room); (case ku => first | (dsimp only [Around.deeper]; omega) | ktr_units); intro t9 h9 tk9 F9 N9; (try dsimp only); (try k_fold)))
  k_with "getMethod bytes" => first | (with_reducible refine method_translate ?_) | (with_reducible refine method_upper ?_) | (with_reducible refine method_hex ?_)
  k_with "call builtin:bytes.translate" => (refine' translate ?k1 ?k2 ?_; (case k1 => first | exact mkT_size _ _ | decide +kernel | rfl); (case k2 => first | ((try simp only [byteArr_size]); omega) | assumption); intro t9 k9; (try dsimp only))
  k_with "call builtin:bytes.upper" => (refine' upper ?k2 ?_; (case k2 => first | ((try simp only [byteArr_size, Array.size_map, hexCps_size]); omega) | assumption); intro t9 k9; (try dsimp only))
  k_with "call builtin:bytes.hex" => (refine' hex ?k2 ?_; (case k2 => omega); intro t9 k9; (try dsimp only))
  k_with "call builtin:str.encode" => (refine' encode ?k1 ?k2 ?_; (case k1 => exact hexCps_lt _); (case k2 => (show Array.size (hexCps _) ≤ _; rw [hexCps_size]; omega)); intro t9 k9; (try dsimp only))
  k_with "getMethod str" => (with_reducible refine method_encode ?_)
  k_with "call ref" => ((with_reducible show wpAny _ _ (call (Value.ref 131) [Value.bytes _ _]) _ _ _); (refine' a2bhex _ _ (by first | assumption | (rw [upped_size]; assumption)) _ _ _ _ _ _ _ _ _ _ _ _ _ _ _ _ _ ?k1 ?k2 ?k3 ?k4 ?k5 ?kK ?kd ?ku ?_ ?_; (case k1 => k_asm); (case k2 => k_asm); (case k3 => k_asm); (case k4 => k_asm); (case k5 => k_asm); (case kK => first | exact rfl | assumption); (case kd => first | (dsimp only [Around.deeper]; omega) | ktr_room); (case ku => first | (dsimp only [Around.deeper]; omega) | ktr_units)); (all_goals first | (intro r9 hr9; obtain ⟨l9, hl9, hr9⟩ := Option.map_eq_some_iff.mp hr9; subst hr9; intro t9 h9 tk9 F9 N9; (try dsimp only); (try k_fold)) | (intro hN9 e9 t9 vs9 G9 h9 tk9 FG9 RS9 US9; (try dsimp only))))
  k_with "leaving ref" => refine stop ?_
  k_with "getMethod ref" => ((with_reducible show wpAny _ _ (getMethod (Value.ref 43) _ _) _ _ _); (refine' method_search ?k1 ?_; (case k1 => exact (Frag.In.keeps (by k_asm) (Fr.keep (by k_asm))) _ _ (by first | k_is | rfl))))
  k_with "call builtin:re.Pattern.search" => (refine' search_K ?k1 ?k2 ?k3 ?k4 ?k5 ?_ ?_; (case k1 => k_asm); (case k2 => k_asm); (case k3 => exact (Frag.In.keeps (by k_asm) (Fr.keep (by k_asm))) _ _ (by first | k_is | rfl)); (case k4 => exact (Frag.In.keeps (by k_asm) (Fr.keep (by k_asm))) _ _ (by first | k_is | rfl)); (case k5 => first | assumption | (rw [upped_size]; assumption)); (all_goals first | (intro (hA9 : allHex _ = true); (try dsimp only)) | (intro (hA9 : allHex _ = false) x9 o9 h9 hc9 F9 N9; (try dsimp only))))
  k_with "truthy ref" => (refine' truthy_match ?k1 ?k2 ?_; (case k1 => exact (News.get (by k_asm) (List.Mem.head _))); (case k2 => assumption))
  k_steps
  all_goals first
    | exact retV _ (hret _ (by rw [if_pos (by assumption)]; assumption)) (by k_asm) (by k_asm) (fun p hp => hp) rfl
    | exact Stop.go (raiseOn (hraise (by rw [if_pos (by assumption)]; assumption)) FG1 B1 (by assumption) (by assumption) (by assumption) (fun p hp => hp))
    | exact Stop.go (raiseOut (hraise (by rw [if_neg (by rw [‹allHex _ = false›]; exact Bool.false_ne_true)]; rfl)) FG1 B1 (by assumption) (by k_asm) (by k_asm) (fun p hp => .tail _ hp) rfl)
theorem b16decF (b : Array UInt8) (tb : Tok) (hb : b.size ≤ 12) : ClaimR prog w p loose mean mg mb 190 3 [.bytes b tb, .bool true] ((if allHex (upped b) = true then hexDec (KBw.bInts (upped b)) else none).map fun l t => .bytes (byteArr l) t) := by
  dsimp only [ClaimR, RetV, RaiseK]
  intros
  rename_i hret hraise
  refine wpAny_call ?_
  (refine' code_def ?k1 ?k2 ?k3 ?k4 ?k5 ?kA ?kF ?kK ?k6 ?k7 ?k8 ?k9 ?kB ?_ ?c2 ?c3 ?c4 ?c5; (case kA => exact rfl); (case kF => exact rfl); (case kK => assumption); (case k1 => k_asm); (case k2 => k_asm); (case k3 => k_asm); (case k4 => k_asm); (case k5 => k_asm); (case k6 => k_is); (case k7 => k_is); (case k8 => first | (dsimp only [ktrTop]; omega) | ktr_room); (case k9 => first | exact BindsTo.of_eq rfl | exact binds_K (by k_in) rfl (by k_is) rfl rfl rfl); (case c5 => decide); (case kB => exact locs rfl); (case c2 => exact rfl); (case c3 => exact rfl); (case c4 => exact rfl); k_whole; intro g1 L1 h1 FG1 F1 N1 B1 X1 T1; (try dsimp only); (try k_lift B1); (try k_fold))
  (refine hide_defR (P := LeaveK _ _ _ _ _) ?_; intro K9 hR9; (try dsimp only))
  (refine let_around ?_; intro A9)
  k_with_none
  k_with "exec If" => (with_reducible refine wpAny_If ?_)
  k_with "isTrue Compare" => ((with_reducible show wpAny _ _ (isTrue (Expr.Compare (Expr.Name _ _) [CmpOp.Eq] [Expr.Constant (Const.int _) _ _] _) _ _) _ _ _); k_dflt (refine' test_eq ?F ?v ?_ ?a ?b ?d; (case F => k_asm); (case a => rfl); (case b => rfl); (case d => decide); (case v => rfl)); (try dsimp only))
  k_with "isTrue Compare" => ((with_reducible show wpAny _ _ (isTrue (Expr.Compare (Expr.Name _ _) [CmpOp.NotEq] [Expr.Constant (Const.int _) _ _] _) _ _) _ _ _); k_dflt (refine' test_ne ?F ?v ?_ ?a ?b ?d; (case F => k_asm); (case a => rfl); (case b => rfl); (case d => decide); (case v => rfl)); (try dsimp only))
  k_with "isTrue Compare" => ((with_reducible show wpAny _ _ (isTrue (Expr.Compare (Expr.Name _ _) [CmpOp.Lt] [Expr.Constant (Const.int _) _ _] _) _ _) _ _ _); k_dflt (refine' test_lt ?F ?v ?_ ?a ?b ?d; (case F => k_asm); (case a => rfl); (case b => rfl); (case d => decide); (case v => rfl)); (try dsimp only))
  k_with "isTrue Compare" => ((with_reducible show wpAny _ _ (isTrue (Expr.Compare (Expr.Name _ _) [CmpOp.LtE] [Expr.Constant (Const.int _) _ _] _) _ _) _ _ _); k_dflt (refine' test_le ?F ?v ?_ ?a ?b ?d; (case F => k_asm); (case a => rfl); (case b => rfl); (case d => decide); (case v => rfl)); (try dsimp only))
  k_with "isTrue Compare" => ((with_reducible show wpAny _ _ (isTrue (Expr.Compare (Expr.Name _ _) [CmpOp.GtE] [Expr.Constant (Const.int _) _ _] _) _ _) _ _ _); k_dflt (refine' test_ge ?F ?v ?_ ?a ?b ?d; (case F => k_asm); (case a => rfl); (case b => rfl); (case d => decide); (case v => rfl)); (try dsimp only))
  k_with "Thn" => first | (refine hK9 _ _ ?_; (try clear hK9); (try dsimp only)) | (refine hK9 _ ?_; (try clear hK9); (try dsimp only))
  k_with "Rtn" => (refine hR9 _ _ ?_)
  k_with "Trn" => (refine hN9 _ _ ?_; (try dsimp only))
  k_with "ThB" => refine thb_ite ?_
  k_with "ThB true" => (refine hT9 _ ?_; (try clear hT9 hF9); (try dsimp only [List.cons_append, List.nil_append, List.append_nil]))
  k_with "ThB false" => (refine hF9 _ ?_; (try clear hT9 hF9); (try dsimp only [List.cons_append, List.nil_append, List.append_nil]))
  k_with "execs cons If" => (refine flat_if ?_; intro K9 hT9 hF9)
  k_with "execs cons If" => k_dflt ((first | (refine' if_pb (lit := false) (n := 6) ?F ?c ?_ ?_; (case F => k_asm); (case c => exact rfl)) | (refine' if_p (lit := false) (n := 6) ?F ?c ?_ ?_; (case F => k_asm); (case c => exact rfl))); (all_goals (intro k9 hb9; first | (exfalso; omega) | dsimp only [List.cons_append, List.nil_append, List.append_nil] | skip)))
  k_with "execs cons If" => k_dflt ((first | (refine' if_T (lit := true) (n := 6) ?F ?c ?_; (case F => k_asm); (case c => exact rfl)) | (refine' if_F (lit := true) (n := 6) ?F ?c ?_; (case F => k_asm); (case c => exact rfl))); intro k9; (try dsimp only [List.cons_append, List.nil_append, List.append_nil]))
  k_with "execs cons If" => k_dflt (refine' if_p (lit := true) (n := 6) ?F ?c ?_ ?_; (case F => k_asm); (case c => exact rfl); (all_goals (intro k9 hb9; first | (exfalso; omega) | dsimp only [List.cons_append, List.nil_append, List.append_nil] | skip)))
  k_with "execs cons Assign" => ((fail_if_success (with_reducible show wpAny _ _ (execs (Stmt.Assign _ (Expr.ListComp _ _ _ _) _ :: _) _) _ _ _)); refine' flat_asg ?_ ?s; (case s => exact rfl); intro K9 hK9)
  k_with "execs cons Assign" => k_dflt (refine' asg_ev (n := 6) ?F ?N ?L ?x ?s ?e ?_; (case F => k_asm); (case N => k_asm); (case L => exact rfl); (case x => exact rfl); (case s => exact rfl); (case e => exact rfl); intro t9 k9 h' m9 F' N'; (try dsimp only); (try k_sweep))
  k_with "storeName" => k_dflt (refine' store_ev ?F ?N ?L ?x ?_; (case F => k_asm); (case N => k_asm); (case L => exact rfl); (case x => exact rfl); intro h' k9 m9 F' N'; (try dsimp only); (try k_sweep))
  k_with "execs cons Return" => (refine flat_ret ?_; intro K9 hK9)
  k_with "execs cons Return" => k_dflt (refine' ret_ev (n := 6) ?F ?e ?_; (case F => k_asm); (case e => exact rfl); intro t9 k9; (try dsimp only))
  k_with "execs cons Expr" => (refine' flat_expr ?_ ?i ?s; (case i => exact rfl); (case s => exact rfl); intro K9 hK9)
  k_with "execs cons Raise" => refine flat_raise ?_
  k_with "execs cons Continue" => refine flat_cont ?_
  k_with "spliced" => plain_pass; k_dflt (refine' args_ev (n := 6) ?F ?e ?_; (case F => k_asm); (case e => exact rfl); intro t9 k9; (try dsimp only [vals, List.cons_append, List.nil_append]))
  k_with "eval Call Name" => plain_pass; k_dflt (refine' callN_ev (n := 6) ?F ?X ?T ?f ?v ?w ?g ?e ?_ ?a ?b ?d; (case F => k_asm); (case e => exact rfl); (case b => exact rfl); (case X => k_asm); (case T => k_asm); (case a => exact rfl); (case f => k_is); (case v => boot_fast); (case w => exact rfl); (case g => decide); (case d => decide); intro t9 k9; (try dsimp only [vals]))
  k_with "eval Call Name" => plain_pass; k_dflt (refine' call_ev (n := 6) ?F ?X ?T ?f ?k ?e ?_ ?a ?b ?d; (case F => k_asm); (case e => exact rfl); (case b => exact rfl); (case X => k_asm); (case T => k_asm); (case a => exact rfl); (case f => k_is); (case k => k_is); (case d => decide); intro t9 k9; (try dsimp only [vals]))
  k_with "call ref" => ((with_reducible show wpAny _ _ (call (Value.ref 51) [Value.bytes _ _]) _ _ _); (refine' bytes_from _ _ _ _ _ _ _ _ _ _ _ _ _ _ _ _ _ _ _ _ ?k1 ?k2 ?k3 ?k4 ?k5 ?kK ?kd ?ku ?_; (case k1 => k_asm); (case k2 => k_asm); (case k3 => k_asm); (case k4 => k_asm); (case k5 => k_asm); (case kK => first | exact rfl | assumption); (case kd => first | (dsimp only [Around.deeper]; omega) | ktr_room); (case ku => first | (dsimp only [Around.deeper]; omega) | ktr_units); intro t9 h9 tk9 F9 N9; (try dsimp only); (try k_fold)))
  k_with "getMethod bytes" => first | (with_reducible refine method_translate ?_) | (with_reducible refine method_upper ?_) | (with_reducible refine method_hex ?_)
  k_with "call builtin:bytes.translate" => (refine' translate ?k1 ?k2 ?_; (case k1 => first | exact mkT_size _ _ | decide +kernel | rfl); (case k2 => first | ((try simp only [byteArr_size]); omega) | assumption); intro t9 k9; (try dsimp only))
  k_with "call builtin:bytes.upper" => (refine' upper ?k2 ?_; (case k2 => first | ((try simp only [byteArr_size, Array.size_map, hexCps_size]); omega) | assumption); intro t9 k9; (try dsimp only))
  k_with "call builtin:bytes.hex" => (refine' hex ?k2 ?_; (case k2 => omega); intro t9 k9; (try dsimp only))
  k_with "call builtin:str.encode" => (refine' encode ?k1 ?k2 ?_; (case k1 => exact hexCps_lt _); (case k2 => (show Array.size (hexCps _) ≤ _; rw [hexCps_size]; omega)); intro t9 k9; (try dsimp only))
  k_with "getMethod str" => (with_reducible refine method_encode ?_)
  k_with "call ref" => ((with_reducible show wpAny _ _ (call (Value.ref 131) [Value.bytes _ _]) _ _ _); (refine' a2bhex _ _ (by first | assumption | (rw [upped_size]; assumption)) _ _ _ _ _ _ _ _ _ _ _ _ _ _ _ _ _ ?k1 ?k2 ?k3 ?k4 ?k5 ?kK ?kd ?ku ?_ ?_; (case k1 => k_asm); (case k2 => k_asm); (case k3 => k_asm); (case k4 => k_asm); (case k5 => k_asm); (case kK => first | exact rfl | assumption); (case kd => first | (dsimp only [Around.deeper]; omega) | ktr_room); (case ku => first | (dsimp only [Around.deeper]; omega) | ktr_units)); (all_goals first | (intro r9 hr9; obtain ⟨l9, hl9, hr9⟩ := Option.map_eq_some_iff.mp hr9; subst hr9; intro t9 h9 tk9 F9 N9; (try dsimp only); (try k_fold)) | (intro hN9 e9 t9 vs9 G9 h9 tk9 FG9 RS9 US9; (try dsimp only))))
  k_with "leaving ref" => refine stop ?_
  k_with "getMethod ref" => ((with_reducible show wpAny _ _ (getMethod (Value.ref 43) _ _) _ _ _); (refine' method_search ?k1 ?_; (case k1 => exact (Frag.In.keeps (by k_asm) (Fr.keep (by k_asm))) _ _ (by first | k_is | rfl))))
  k_with "call builtin:re.Pattern.search" => (refine' search_K ?k1 ?k2 ?k3 ?k4 ?k5 ?_ ?_; (case k1 => k_asm); (case k2 => k_asm); (case k3 => exact (Frag.In.keeps (by k_asm) (Fr.keep (by k_asm))) _ _ (by first | k_is | rfl)); (case k4 => exact (Frag.In.keeps (by k_asm) (Fr.keep (by k_asm))) _ _ (by first | k_is | rfl)); (case k5 => first | assumption | (rw [upped_size]; assumption)); (all_goals first | (intro (hA9 : allHex _ = true); (try dsimp only)) | (intro (hA9 : allHex _ = false) x9 o9 h9 hc9 F9 N9; (try dsimp only))))
  k_with "truthy ref" => (refine' truthy_match ?k1 ?k2 ?_; (case k1 => exact (News.get (by k_asm) (List.Mem.head _))); (case k2 => assumption))
  k_steps
  all_goals first
    | exact retV _ (hret _ (by rw [if_pos (by assumption)]; assumption)) (by k_asm) (by k_asm) (fun p hp => hp) rfl
    | exact Stop.go (raiseOn (hraise (by rw [if_pos (by assumption)]; assumption)) FG1 B1 (by assumption) (by assumption) (by assumption) (fun p hp => hp))
    | exact Stop.go (raiseOut (hraise (by rw [if_neg (by rw [‹allHex _ = false›]; exact Bool.false_ne_true)]; rfl)) FG1 B1 (by assumption) (by k_asm) (by k_asm) (fun p hp => .tail _ hp) rfl)
end
end

section
theorem ints_of_items {b : Array UInt8} {acc : Array Value} (h : ItemsOf (fun i v => ∃ c u, b[i]? = some c ∧ v = .int (c.toNat : Int) u) acc b.size) : IntsAre acc.toList (KBw.bInts b) := by
  have gen : ∀ (l : List UInt8) (vs : List Value), vs.length = l.length → (∀ (j : Nat) (v : Value), vs[j]? = some v → ∃ c u, l[j]? = some c ∧ v = .int (c.toNat : Int) u) → IntsAre vs (l.map fun c => (c.toNat : Int)) := by
    intro l
    induction l with
    | nil => intro vs e _; rw [List.length_eq_zero_iff.mp e]; exact IntsAre.nil
    | cons c l ih =>
      intro vs e hv
      match vs, e with
      | v :: vs, e =>
        obtain ⟨c', u, hc, rfl⟩ := hv 0 v rfl
        cases hc
        exact IntsAre.cons _ _ (ih vs (by simpa using e) fun j v hj => hv (j + 1) v hj)
  refine gen b.toList acc.toList (by rw [Array.length_toList, h.1, Array.length_toList]) fun j v hj => ?_
  obtain ⟨c, u, hc, e⟩ := h.2 j v (by rw [← hj, Array.getElem?_toList])
  exact ⟨c, u, by rw [Array.getElem?_toList]; exact hc, e⟩
section
variable {prog : Program} {w : World} {A : Around} {E : Value → Shared → Prop} {s : Shared}
theorem extend_bytes {R : Result → Shared → Prop} (hh : A.handled = none) (x : Array UInt8) (t : Tok) (S : Addr) (res : Value) (c₀ : Nat) (hS : s.heap.get? S = some { cls := .type "list", data := .seq #[] c₀ })
    (hR : ∀ h' tk acc' c', (∀ b o, b ≠ S → s.heap.get? b = some o → h'.get? b = some o) → h'.get? S = some { cls := .type "list", dict := none, data := .seq acc' c', slots := #[] } →
      IntsAre acc'.toList (KBw.bInts x) → R (.ok (.ret res)) { s with heap := h', toks := tk }) (hn : x.size ≤ sizeLine) :
    wpAny (model prog w) A.in1 (Builtin.List.listExtendWith (.ref S) (.bytes x t) res)
      (fun fin s' => match fin with | .done f => R (.ok f) s' | .again c' => c'.quiet = true ∧ codeAny (model prog w) A c' R s') (fun e s' => R (.error e) s') s := by
  have hSI : S ≠ s.heap.objs.size := Nat.ne_of_lt (Heap.lt_size hS)
  have hSf : S ∉ [s.heap.objs.size] := fun hm => hSI (List.mem_singleton.mp hm)
  unfold Builtin.List.listExtendWith
  refine wpAny_bind (wpAny_typeOf (T := "bytes") (v := .bytes x t) rfl ?_)
  have h1 : Builtin.List.listSameRef (.ref S) (.bytes x t) = false := rfl
  have h2 : (Value.type "bytes" == Value.type "list") = false := by decide
  have h3 : (Value.type "bytes" == Value.type "tuple") = false := by decide
  simp only [h1, h2, h3, Bool.or_false, Bool.false_eq_true, if_false]
  refine wpAny_bind (KBw.pyIter_bytes ?_)
  refine wpAny_bind (wpAny_holding ?_)
  unfold Builtin.List.listLengthHint
  refine wpAny_bind (wpAny_specialOf (typeIs_bytes _ x t) FB.slot_bytes_len.lookup ?_)
  wp_delta
  refine wpAny_bind (wpAny_isInstance (T := "bytes") (v := .bytes x t) (b := true) rfl (by rw [isSubtype_type]; kernel_rfl) ?_)
  show wpAny _ _ (typeOf (Value.bytes x t) >>= _) _ _ _
  refine wpAny_bind (wpAny_typeOf (T := "bytes") (v := .bytes x t) rfl ?_)
  refine wpAny_pure ?_
  rw [if_neg (by decide)]
  have W := KBw.walks (prog := prog) (w := w) (A := A.in1) hh s.heap.objs.size x t
  refine wpAny_pure ⟨plainId_quiet F.plain_extend_loop _, codeAny_extend_loopS W.toS hn _ hSf _ x.size 0 _ _ _ rfl (Nat.zero_le _) ⟨_, Heap.get?_push_size _ rfl, rfl, rfl⟩ (Heap.get?_push_of_some _ hS) (ItemsOf.nil _) fun s' acc' c' hm hS' hacc => ?_⟩
  rw [Moved.eq_with hm]
  refine hR s'.heap s'.toks acc' c' (fun b ob hb e => hm.heap b ob (fun hmem => ?_) (Heap.get?_push_of_some _ e)) hS' (ints_of_items hacc)
  rcases List.mem_cons.mp hmem with e' | hmem
  · exact hb e'
  · exact absurd (Heap.lt_size e) (by rw [List.mem_singleton.mp hmem]; exact Nat.lt_irrefl _)
theorem list_init_bytes {R : Result → Shared → Prop} (hh : A.handled = none) (x : Array UInt8) (t : Tok) (S : Addr) (hS : s.heap.get? S = some { cls := .type "list", data := .seq #[] })
    (hR : ∀ h' tk acc' c', (∀ b o, b ≠ S → s.heap.get? b = some o → h'.get? b = some o) → h'.get? S = some { cls := .type "list", dict := none, data := .seq acc' c', slots := #[] } →
      IntsAre acc'.toList (KBw.bInts x) → R (.ok (.ret .none)) { s with heap := h', toks := tk }) (hn : x.size ≤ sizeLine) :
    wpAny (model prog w) A.in1 (Builtin.«list.__init__» ⟨[.ref S, .bytes x t], []⟩)
      (fun fin s' => match fin with | .done f => R (.ok f) s' | .again c' => c'.quiet = true ∧ codeAny (model prog w) A c' R s') (fun e s' => R (.error e) s') s := by
  show wpAny _ _ (do let old ← Builtin.List.listItems (.ref S); Builtin.List.listUpdate (.ref S) (fun _ => #[]); letGo old.toList.reverse; Builtin.List.listExtendWith (.ref S) (.bytes x t) .none) _ _ s
  refine wpAny_bind ?_
  unfold Builtin.List.listItems
  refine wpAny_bind (wpAny_seqItems hS rfl (wpAny_pure ?_))
  show wpAny _ _ (updateSeq S (fun _ => #[]) >>= fun _ => letGo (#[] : Array Value).toList.reverse >>= fun _ => Builtin.List.listExtendWith (.ref S) (.bytes x t) .none) _ _ s
  refine wpAny_bind (wpAny_updateSeq hS rfl ?_)
  have hS₂ := Heap.get?_update_self (Obj.mapSeq (fun _ => (#[] : Array Value))) hS rfl
  have oth : ∀ b o, b ≠ S → s.heap.get? b = some o → (s.heap.update S (Obj.mapSeq (fun _ => (#[] : Array Value)))).get? b = some o :=
    fun b o hb e => (Heap.get?_update_other _ _ (Ne.symm hb)).trans e
  refine wpAny_bind (wpAny_letGo ?_)
  refine extend_bytes (hn := hn) hh x t S .none _ hS₂ fun h' tk acc' c' hk hS' hacc => ?_
  exact hR h' tk acc' c' (fun b o hb e => hk b o hb (oth b o hb e)) hS' hacc
theorem list_bytes {Q : Value → Shared → Prop} {h₀ : Heap} {L : Addr} {m : Str → Option Value} {news : List (Addr × Obj)} {x : Array UInt8} {t : Tok} (Fh : Fr h₀ L s.heap m) (N : News h₀ L s.heap news) (hh : A.handled = none) (hn : x.size ≤ 16777216)
    (h : ∀ D us c h' tk, Fr h₀ L h' m → News h₀ L h' ((D, listOf (List.toArray us) c) :: news) → (∀ p ∈ news, p.1 < D) → IntsAre us (KBw.bInts x) → Q (.ref D) { s with heap := h', toks := tk }) :
    wpAny (model prog w) A (call (.type "list") [.bytes x t]) Q E s := by
  refine callType_codes (Q₁ := fun obj s₁ => obj = .ref s.heap.objs.size ∧ s₁ = { s with heap := s.heap.push { cls := .type "list", data := .seq #[] } }) F.called_list (F.typeCall_list_1 _) F.entry_list_init
    (code_list_new _ ⟨rfl, rfl⟩) fun obj s₁ h₁ => ?_
  obtain ⟨rfl, rfl⟩ := h₁
  have hS : (s.heap.push { cls := .type "list", data := .seq #[] }).get? s.heap.objs.size = some { cls := .type "list", data := .seq #[] } := Heap.get?_push_size _ rfl
  refine ⟨⟨_, hS, rfl⟩, F.args_list_init_2 _ _, list_init_bytes (A := A.in1) (hn := by rw [sizeLine_eq]; exact hn) hh x t _ hS fun h' tk acc' c' hk hS' hacc => ?_⟩
  have hk' : ∀ b o, s.heap.get? b = some o → h'.get? b = some o := fun b o e => hk b o (Nat.ne_of_lt (Heap.lt_size e)) (Heap.get?_push_of_some _ e)
  have hD' : h'.get? s.heap.objs.size = some (listOf (List.toArray acc'.toList) c') := by
    rw [Array.toArray_toList]
    exact hS'
  exact ⟨rfl, h _ acc'.toList c' h' tk (Fh.keeps hk') (news_pushed Fh N hk' hD' rfl) (fun p hp => Heap.lt_size (N p hp).1) hacc⟩
end
end

theorem reset21 : True := by
  w_top off
  k_with_none
  trivial
section
/-- what a def that makes one new list of ints is asked -/
abbrev RetL (h₀ : Heap) (L : Addr) (m : Str → Option Value) (news : List (Addr × Obj)) (s : Shared) (Q : Value → Shared → Prop) (ns : List Int) : Prop :=
  ∀ (D : Addr) (us : List Value) (c : Nat) (h' : Heap) (tk' : Nat), Fr h₀ L h' m → News h₀ L h' ((D, listOf (List.toArray us) c) :: news) → (∀ p ∈ news, p.1 < D) → IntsAre us ns → Q (.ref D) { s with heap := h', toks := tk' }
abbrev ClaimL (prog : Program) (w : World) (p : Program) (loose : List Str) (mean : ExcName → Option Value) (mg mb : Str → Option Value) (f : Addr) (need : Nat) (vs : List Value) (ns : List Int) (kw : List (Str × Value) := []) : Prop :=
  ∀ (dp un : Nat) (gd : Option (List Code)) (cn : Str) (cs : Scope) (a : Addr) (ccd : Value) (cl : List (Str × Addr)) (outer : List Env) (A₀ : Around) (base h₀ : Heap) (L : Addr) (m : Str → Option Value) (news : List (Addr × Obj)) (s : Shared) (Q E : Value → Shared → Prop),
    Below A₀ base outer h₀ → Fr h₀ L s.heap m → (hd.heap_39 w.params).In h₀ → News h₀ L s.heap news → Top p loose mean mg mb h₀ → cs.kind = .function →
    dp + need < recursionLimit → un + 8 * need < cLine → RetL h₀ L m news s Q ns →
      wpAny (model prog w) (ktrTop dp un gd cn cs L a ccd cl outer) (call (.ref f) vs kw) Q E s
abbrev signs62 : List Int := [65, 66, 67, 68, 69, 70, 71, 72, 73, 74, 75, 76, 77, 78, 79, 80, 81, 82, 83, 84, 85, 86, 87, 88, 89, 90, 97, 98, 99, 100, 101, 102, 103, 104, 105, 106, 107, 108, 109, 110, 111, 112, 113, 114, 115, 116, 117, 118, 119, 120, 121, 122, 48, 49, 50, 51, 52, 53, 54, 55, 56, 57]
theorem allNe_of {l : List (Addr × Obj)} {d c : Nat} (h : ∀ p ∈ l, p.1 < d) (hd : @LE.le Nat _ d c) : ∀ p ∈ l, p.1 ≠ c := fun p hp => Nat.ne_of_lt (Nat.lt_of_lt_of_le (h p hp) hd)
/-- all addresses of a ledger lie below one -/
structure Low (l : List (Addr × Obj)) (d : Nat) : Prop where
  h : ∀ p ∈ l, p.1 < d
theorem Low.tail {x : Addr × Obj} {l : List (Addr × Obj)} {d : Nat} (h : Low (x :: l) d) : Low l d := ⟨fun p hp => h.h p (.tail _ hp)⟩
theorem Low.ne {l : List (Addr × Obj)} {d c : Nat} (h : Low l d) (hd : @LE.le Nat _ d c) : ∀ p ∈ l, p.1 ≠ c := allNe_of h.h hd
section
variable {prog : Program} {w : World} {p : Program} {loose : List Str} {mean : ExcName → Option Value} {mg mb : Str → Option Value}
theorem law_signs : ClaimL prog w p loose mean mg mb 197 1 [] signs62 := by
  dsimp only [ClaimL, RetL]
  intros
  rename_i hret
  refine wpAny_call ?_
  (refine' code_def ?k1 ?k2 ?k3 ?k4 ?k5 ?kA ?kF ?kK ?k6 ?k7 ?k8 ?k9 ?kB ?_ ?c2 ?c3 ?c4 ?c5; (case kA => exact rfl); (case kF => exact rfl); (case kK => assumption); (case k1 => k_asm); (case k2 => k_asm); (case k3 => k_asm); (case k4 => k_asm); (case k5 => k_asm); (case k6 => k_is); (case k7 => k_is); (case k8 => first | (dsimp only [ktrTop]; omega) | ktr_room); (case k9 => first | exact BindsTo.of_eq rfl | exact binds_K (by k_in) rfl (by k_is) rfl rfl rfl); (case c5 => decide); (case kB => exact locs rfl); (case c2 => exact rfl); (case c3 => exact rfl); (case c4 => exact rfl); k_whole; intro g1 L1 h1 FG1 F1 N1 B1 X1 T1; (try dsimp only); (try k_lift B1); (try k_fold))
  (refine hide_def (P := LeaveK _ _ _ _ _) ?_; intro K9 X9 hR9; (try dsimp only))
  (refine let_around ?_; intro A9)
  k_with_none
  k_with "exec If" => (with_reducible refine wpAny_If ?_)
  k_with "isTrue Compare" => ((with_reducible show wpAny _ _ (isTrue (Expr.Compare (Expr.Name _ _) [CmpOp.Eq] [Expr.Constant (Const.int _) _ _] _) _ _) _ _ _); k_dflt (refine' test_eq ?F ?v ?_ ?a ?b ?d; (case F => k_asm); (case a => rfl); (case b => rfl); (case d => decide); (case v => rfl)); (try dsimp only))
  k_with "isTrue Compare" => ((with_reducible show wpAny _ _ (isTrue (Expr.Compare (Expr.Name _ _) [CmpOp.NotEq] [Expr.Constant (Const.int _) _ _] _) _ _) _ _ _); k_dflt (refine' test_ne ?F ?v ?_ ?a ?b ?d; (case F => k_asm); (case a => rfl); (case b => rfl); (case d => decide); (case v => rfl)); (try dsimp only))
  k_with "isTrue Compare" => ((with_reducible show wpAny _ _ (isTrue (Expr.Compare (Expr.Name _ _) [CmpOp.Lt] [Expr.Constant (Const.int _) _ _] _) _ _) _ _ _); k_dflt (refine' test_lt ?F ?v ?_ ?a ?b ?d; (case F => k_asm); (case a => rfl); (case b => rfl); (case d => decide); (case v => rfl)); (try dsimp only))
  k_with "isTrue Compare" => ((with_reducible show wpAny _ _ (isTrue (Expr.Compare (Expr.Name _ _) [CmpOp.LtE] [Expr.Constant (Const.int _) _ _] _) _ _) _ _ _); k_dflt (refine' test_le ?F ?v ?_ ?a ?b ?d; (case F => k_asm); (case a => rfl); (case b => rfl); (case d => decide); (case v => rfl)); (try dsimp only))
  k_with "isTrue Compare" => ((with_reducible show wpAny _ _ (isTrue (Expr.Compare (Expr.Name _ _) [CmpOp.GtE] [Expr.Constant (Const.int _) _ _] _) _ _) _ _ _); k_dflt (refine' test_ge ?F ?v ?_ ?a ?b ?d; (case F => k_asm); (case a => rfl); (case b => rfl); (case d => decide); (case v => rfl)); (try dsimp only))
  k_with "Thn" => first | (refine hK9 _ _ ?_; (try clear hK9); (try dsimp only)) | (refine hK9 _ ?_; (try clear hK9); (try dsimp only))
  k_with "Rtn" => (refine hR9 _ _ ?_)
  k_with "Trn" => (refine hN9 _ _ ?_; (try dsimp only))
  k_with "ThB" => refine thb_ite ?_
  k_with "ThB true" => (refine hT9 _ ?_; (try clear hT9 hF9); (try dsimp only [List.cons_append, List.nil_append, List.append_nil]))
  k_with "ThB false" => (refine hF9 _ ?_; (try clear hT9 hF9); (try dsimp only [List.cons_append, List.nil_append, List.append_nil]))
  k_with "execs cons If" => (refine flat_if ?_; intro K9 hT9 hF9)
  k_with "execs cons If" => k_dflt ((first | (refine' if_pb (lit := false) (n := 6) ?F ?c ?_ ?_; (case F => k_asm); (case c => exact rfl)) | (refine' if_p (lit := false) (n := 6) ?F ?c ?_ ?_; (case F => k_asm); (case c => exact rfl))); (all_goals (intro k9 hb9; first | (exfalso; omega) | dsimp only [List.cons_append, List.nil_append, List.append_nil] | skip)))
  k_with "execs cons If" => k_dflt ((first | (refine' if_T (lit := true) (n := 6) ?F ?c ?_; (case F => k_asm); (case c => exact rfl)) | (refine' if_F (lit := true) (n := 6) ?F ?c ?_; (case F => k_asm); (case c => exact rfl))); intro k9; (try dsimp only [List.cons_append, List.nil_append, List.append_nil]))
  k_with "execs cons If" => k_dflt (refine' if_p (lit := true) (n := 6) ?F ?c ?_ ?_; (case F => k_asm); (case c => exact rfl); (all_goals (intro k9 hb9; first | (exfalso; omega) | dsimp only [List.cons_append, List.nil_append, List.append_nil] | skip)))
  k_with "execs cons Assign" => ((fail_if_success (with_reducible show wpAny _ _ (execs (Stmt.Assign _ (Expr.ListComp _ _ _ _) _ :: _) _) _ _ _)); refine' flat_asg ?_ ?s; (case s => exact rfl); intro K9 hK9)
  k_with "execs cons Assign" => k_dflt (refine' asg_ev (n := 6) ?F ?N ?L ?x ?s ?e ?_; (case F => k_asm); (case N => k_asm); (case L => exact rfl); (case x => exact rfl); (case s => exact rfl); (case e => exact rfl); intro t9 k9 h' m9 F' N'; (try dsimp only); (try k_sweep))
  k_with "storeName" => k_dflt (refine' store_ev ?F ?N ?L ?x ?_; (case F => k_asm); (case N => k_asm); (case L => exact rfl); (case x => exact rfl); intro h' k9 m9 F' N'; (try dsimp only); (try k_sweep))
  k_with "execs cons Return" => (refine flat_ret ?_; intro K9 hK9)
  k_with "execs cons Return" => k_dflt (refine' ret_ev (n := 6) ?F ?e ?_; (case F => k_asm); (case e => exact rfl); intro t9 k9; (try dsimp only))
  k_with "execs cons Expr" => (refine' flat_expr ?_ ?i ?s; (case i => exact rfl); (case s => exact rfl); intro K9 hK9)
  k_with "execs cons Raise" => refine flat_raise ?_
  k_with "execs cons Continue" => refine flat_cont ?_
  k_with "spliced" => plain_pass; k_dflt (refine' args_ev (n := 6) ?F ?e ?_; (case F => k_asm); (case e => exact rfl); intro t9 k9; (try dsimp only [vals, List.cons_append, List.nil_append]))
  k_with "eval Call Name" => plain_pass; k_dflt (refine' callN_ev (n := 6) ?F ?X ?T ?f ?v ?w ?g ?e ?_ ?a ?b ?d; (case F => k_asm); (case e => exact rfl); (case b => exact rfl); (case X => k_asm); (case T => k_asm); (case a => exact rfl); (case f => k_is); (case v => boot_fast); (case w => exact rfl); (case g => decide); (case d => decide); intro t9 k9; (try dsimp only [vals]))
  k_with "eval Call Name" => plain_pass; k_dflt (refine' call_ev (n := 6) ?F ?X ?T ?f ?k ?e ?_ ?a ?b ?d; (case F => k_asm); (case e => exact rfl); (case b => exact rfl); (case X => k_asm); (case T => k_asm); (case a => exact rfl); (case f => k_is); (case k => k_is); (case d => decide); intro t9 k9; (try dsimp only [vals]))
  k_with "call type:list" => ((with_reducible show wpAny _ _ (call (Value.type "list") [Value.bytes _ _]) _ _ _); (refine' list_bytes ?k1 ?k2 ?k3 ?k4 ?_; (case k1 => k_asm); (case k2 => k_asm); (case k3 => first | exact rfl | assumption); (case k4 => first | decide | omega); intro D9 us9 c9 h9 k9 F9 N9 l9 hI9; (try dsimp only)))
  k_steps
  exact hret _ _ _ _ _ (by k_asm) (by k_asm) (by assumption) (by assumption)
end
end

section
/-- a loop whose state is one cell that holds an int -/
inductive CellJ (before after : List (Addr × Obj)) (c : Addr) (ks : List Str) (kv : List Value) (P : List Int → Int → Prop) (pre : List Int) (m : Str → Option Value) : List (Addr × Obj) → Prop
  | mk (a : Int) (t : Tok) (o : Obj) : o.data = .cell (some (.int a t)) → ks.map m = kv.map some → P pre a → CellJ before after c ks kv P pre m (before ++ (c, o) :: after)
theorem off_both {after own before : List (Addr × Obj)} {c : Addr} {o : Obj} (ha : ∀ p ∈ after, p.1 ≠ c) (ho : OwnOff own ((before ++ (c, o) :: after).map (·.1))) : ∀ p ∈ after ++ own, p.1 ≠ c := fun p hp => by
  rcases List.mem_append.mp hp with h1 | h1
  · exact ha p h1
  · exact ho p h1 c (by simp)
section
variable {prog : Program} {w : World} {A : Around} {E : Value → Shared → Prop} {s : Shared} {env : Env} {h₀ : Heap} {x : Str} {body : List Stmt} {Q : Flow → Shared → Prop}
theorem adr_same (before after : List (Addr × Obj)) (c : Addr) (o o' : Obj) : (before ++ (c, o) :: after).map (·.1) = (before ++ (c, o') :: after).map (·.1) := by simp
theorem bytesForC {b : Array UInt8} {tb : Tok} {m₀ : Str → Option Value} {before after : List (Addr × Obj)} {c : Addr} {o₀ : Obj} {a₀ : Int} {t₀ : Tok} {kv : List Value}
    (ks : List Str) (P : List Int → Int → Prop)
    (hh : A.handled = none) (F : Fr h₀ env.locals s.heap m₀) (N : News h₀ env.locals s.heap (before ++ (c, o₀) :: after)) (hafter : ∀ p ∈ after, p.1 ≠ c)
    (hd : o₀.data = .cell (some (.int a₀ t₀))) (hk : ks.map m₀ = kv.map some) (hp : P [] a₀)
    (turn : ∀ (pre post : List Int) (n : Int) (t : Tok) (u : Str → Option Value) (a : Int) (ta : Tok) (o : Obj) (h : Heap) (tk : Nat) (own : List (Addr × Obj)), KBw.bInts b = pre ++ n :: post → 0 ≤ n → n < 256 → (∀ p ∈ after ++ own, p.1 ≠ c) → o.data = .cell (some (.int a ta)) → P pre a →
      Fr h₀ env.locals h (fun y => if y = x then some (.int n t) else ov ks kv u y) → News h₀ env.locals h (before ++ (c, o) :: (after ++ own)) →
      wpAny (model prog w) A (execs body env) (InvPostN h₀ env.locals (CellJ before after c ks kv P (pre ++ [n])) own ((before ++ (c, o₀) :: after).map (·.1)) { s with heap := h, toks := tk } Q) E { s with heap := h, toks := tk })
    (done : ∀ (u : Str → Option Value) (a : Int) (ta : Tok) (o : Obj) (h : Heap) (tk : Nat), o.data = .cell (some (.int a ta)) → P (KBw.bInts b) a →
      Fr h₀ env.locals h (ov ks kv u) → News h₀ env.locals h (before ++ (c, o) :: after) → Q .next { s with heap := h, toks := tk }) :
    wpAny (model prog w) A (pyIter (.bytes b tb)) (fun it s₂ => LoopAtV prog w A h₀ env x body Q E it s₂) E s := by
  refine bytesJ (CellJ before after c ks kv P) hh F N (.mk a₀ t₀ o₀ hd hk hp) ?_ ?_
  · rintro pre post n t m₁ nx h tk own e h0 h1 hoff ⟨a, ta, o, ho, hk', hp'⟩ F₁ N₁
    rw [List.append_assoc, List.cons_append] at N₁
    exact turn pre post n t m₁ a ta o h tk own e h0 h1 (off_both hafter hoff) ho hp' (by rw [ov_eq hk']; exact F₁) N₁
  · rintro m₁ nx h tk ⟨a, ta, o, ho, hk', hp'⟩ F₁ N₁
    exact done m₁ a ta o h tk ho hp' (by rw [ov_eq hk']; exact F₁) N₁
theorem listForC {l : Addr} {ws : List Value} {ns : List Int} {nl : Nat} {m₀ : Str → Option Value} {before after : List (Addr × Obj)} {c : Addr} {o₀ : Obj} {a₀ : Int} {t₀ : Tok} {kv : List Value}
    (ks : List Str) (P : List Int → Int → Prop)
    (hh : A.handled = none) (hl : (l, listOf ws.toArray nl) ∈ after) (hw : IntsAre ws ns) (F : Fr h₀ env.locals s.heap m₀) (N : News h₀ env.locals s.heap (before ++ (c, o₀) :: after)) (hafter : ∀ p ∈ after, p.1 ≠ c)
    (hd : o₀.data = .cell (some (.int a₀ t₀))) (hk : ks.map m₀ = kv.map some) (hp : P [] a₀)
    (turn : ∀ (pre post : List Int) (n : Int) (t : Tok) (u : Str → Option Value) (a : Int) (ta : Tok) (o : Obj) (h : Heap) (tk : Nat) (own : List (Addr × Obj)), ns = pre ++ n :: post → (∀ p ∈ after ++ own, p.1 ≠ c) → o.data = .cell (some (.int a ta)) → P pre a →
      Fr h₀ env.locals h (fun y => if y = x then some (.int n t) else ov ks kv u y) → News h₀ env.locals h (before ++ (c, o) :: (after ++ own)) →
      wpAny (model prog w) A (execs body env) (InvPostN h₀ env.locals (CellJ before after c ks kv P (pre ++ [n])) own ((before ++ (c, o₀) :: after).map (·.1)) { s with heap := h, toks := tk } Q) E { s with heap := h, toks := tk })
    (done : ∀ (u : Str → Option Value) (a : Int) (ta : Tok) (o : Obj) (h : Heap) (tk : Nat), o.data = .cell (some (.int a ta)) → P ns a →
      Fr h₀ env.locals h (ov ks kv u) → News h₀ env.locals h (before ++ (c, o) :: after) → Q .next { s with heap := h, toks := tk }) :
    wpAny (model prog w) A (pyIter (.ref l)) (fun it s₂ => LoopAtV prog w A h₀ env x body Q E it s₂) E s := by
  refine listJ (CellJ before after c ks kv P) hh (fun pre m nx hJ => by cases hJ; exact List.mem_append_right _ (.tail _ hl)) hw F N (.mk a₀ t₀ o₀ hd hk hp) ?_ ?_
  · rintro pre post n t m₁ nx h tk own e hoff ⟨a, ta, o, ho, hk', hp'⟩ F₁ N₁
    rw [List.append_assoc, List.cons_append] at N₁
    exact turn pre post n t m₁ a ta o h tk own e (off_both hafter hoff) ho hp' (by rw [ov_eq hk']; exact F₁) N₁
  · rintro m₁ nx h tk ⟨a, ta, o, ho, hk', hp'⟩ F₁ N₁
    exact done m₁ a ta o h tk ho hp' (by rw [ov_eq hk']; exact F₁) N₁
theorem cellEnd {L : Addr} {before after own : List (Addr × Obj)} {c : Addr} {o o₀ : Obj} {ks : List Str} {kv : List Value} {P : List Int → Int → Prop} {pre : List Int} {m' : Str → Option Value} {s₁ : Shared} {h' : Heap} {tk : Nat} {a : Int} {ta : Tok}
    (F : Fr h₀ L h' m') (N : News h₀ L h' (before ++ (c, o) :: (after ++ own))) (hd : o.data = .cell (some (.int a ta))) (hk : ks.map m' = kv.map some) (hp : P pre a) :
    InvEndN h₀ L (CellJ before after c ks kv P pre) own ((before ++ (c, o₀) :: after).map (·.1)) s₁ { s₁ with heap := h', toks := tk } :=
  InvEndN.intro F N (nx := before ++ (c, o) :: after) (.mk a ta o hd hk hp) (adr_same _ _ _ _ _) (fun p hp => by
    rcases List.mem_append.mp hp with h | h
    · exact List.mem_append_left _ h
    · rcases List.mem_cons.mp h with rfl | h
      · exact List.mem_append_right _ (.head _)
      · exact List.mem_append_right _ (.tail _ (List.mem_append_left _ h))) fun p hp => List.mem_append_right _ (.tail _ (List.mem_append_right _ hp))
end
end

theorem reset23 : True := by
  w_top off
  k_with_none
  trivial
section
def numOf (old : Nat) (ns : List Int) : Int := ns.foldl (fun n x => n * 2 ^ old + x) 0
theorem numOf_snoc (old : Nat) (pre : List Int) (n : Int) : numOf old (pre ++ [n]) = numOf old pre * 2 ^ old + n := by simp [numOf]
theorem numOf_in (old : Nat) (l : List Int) (h : ∀ v ∈ l, 0 ≤ v ∧ v < 2 ^ old) : 0 ≤ numOf old l ∧ numOf old l < 2 ^ (old * l.length) := by
  suffices H : ∀ (l : List Int) (k : Nat) (a : Int), (∀ v ∈ l, 0 ≤ v ∧ v < 2 ^ old) → 0 ≤ a → a < 2 ^ (old * k) → 0 ≤ l.foldl (fun n x => n * 2 ^ old + x) a ∧ l.foldl (fun n x => n * 2 ^ old + x) a < 2 ^ (old * (k + l.length)) by
    have := H l 0 0 h (by decide) (by simp)
    rwa [Nat.zero_add] at this
  intro l
  induction l with
  | nil => intro k a _ h0 h1; exact ⟨h0, h1⟩
  | cons n l ih =>
    intro k a hl h0 h1
    have hn := hl n (.head _)
    have hp : (0 : Int) < 2 ^ old := Int.pow_pos (by decide)
    have e : (2 : Int) ^ (old * (k + 1)) = 2 ^ (old * k) * 2 ^ old := by rw [Nat.mul_succ, Int.pow_add]
    have h2 : 0 ≤ a * 2 ^ old + n := Int.add_nonneg (Int.mul_nonneg h0 (Int.le_of_lt hp)) hn.1
    have h3 : a * 2 ^ old + n < 2 ^ (old * (k + 1)) := by
      rw [e]
      have h4 : (a + 1) * 2 ^ old ≤ 2 ^ (old * k) * 2 ^ old := Int.mul_le_mul_of_nonneg_right h1 (Int.le_of_lt hp)
      rw [Int.add_mul, Int.one_mul] at h4
      omega
    have := ih (k + 1) (a * 2 ^ old + n) (fun v hv => hl v (.tail _ hv)) h2 h3
    rw [List.foldl_cons, List.length_cons]
    rwa [Nat.add_assoc, Nat.add_comm 1] at this
theorem lt_pow {a : Int} {j k : Nat} (h : a < 2 ^ j) (hj : j ≤ k) : a < 2 ^ k := by
  have e : ((2 ^ j : Nat) : Int) ≤ ((2 ^ k : Nat) : Int) := Int.ofNat_le.mpr (Nat.pow_le_pow_right (by decide) hj)
  rw [Int.natCast_pow, Int.natCast_pow] at e
  exact Int.lt_of_lt_of_le h e
/-- what regrouping makes: the groups, the rest, whether there is one -/
def regGroups (old new : Nat) (ns : List Int) : List Int := (rangeKs 0 ((ns.length : Int) * old / new - 0).toNat).map fun k => numOf old ns / 2 ^ ((ns.length : Int) * old - new * (k + 1)).toNat % 2 ^ new
theorem regGroups_len (old new : Nat) (ns : List Int) : (regGroups old new ns).length = ((ns.length : Int) * old / new).toNat := by
  unfold regGroups
  rw [List.length_map, rangeKs_length, Int.sub_zero]
def regRest (old new : Nat) (ns : List Int) : Int := numOf old ns % 2 ^ ((ns.length : Int) * old % new).toNat * 2 ^ ((new : Int) - (ns.length : Int) * old % new).toNat
def regMore (old new : Nat) (ns : List Int) : Bool := (ns.length : Int) * old % new != 0
abbrev tup3 (D : Addr) (r : Int) (t : Tok) (m : Bool) : Obj := { cls := .type "tuple", data := .seq #[.ref D, .int r t, .bool m] }
/-- what a def that makes a tuple of a new list of ints, an int and a bool is asked -/
abbrev RetT (h₀ : Heap) (L : Addr) (m : Str → Option Value) (news : List (Addr × Obj)) (s : Shared) (Q : Value → Shared → Prop) (ns : List Int) (r : Int) (more : Bool) : Prop :=
  ∀ (T D : Addr) (us : List Value) (c : Nat) (t : Tok) (h' : Heap) (tk' : Nat), Fr h₀ L h' m → News h₀ L h' ((T, tup3 D r t more) :: (D, listOf (List.toArray us) c) :: news) → @LT.lt Nat _ D T → (∀ p ∈ news, p.1 < T) → (∀ p ∈ news, p.1 ≠ D) → IntsAre us ns → Q (.ref T) { s with heap := h', toks := tk' }
abbrev ClaimT (prog : Program) (w : World) (p : Program) (loose : List Str) (mean : ExcName → Option Value) (mg mb : Str → Option Value) (f : Addr) (need : Nat) (vs : List Value) (ns : List Int) (r : Int) (more : Bool) : Prop :=
  ∀ (dp un : Nat) (gd : Option (List Code)) (cn : Str) (cs : Scope) (a : Addr) (ccd : Value) (cl : List (Str × Addr)) (outer : List Env) (A₀ : Around) (base h₀ : Heap) (L : Addr) (m : Str → Option Value) (news : List (Addr × Obj)) (s : Shared) (Q E : Value → Shared → Prop),
    Below A₀ base outer h₀ → Fr h₀ L s.heap m → (hd.heap_39 w.params).In h₀ → News h₀ L s.heap news → Top p loose mean mg mb h₀ → cs.kind = .function →
    dp + need < recursionLimit → un + 8 * need < cLine → RetT h₀ L m news s Q ns r more →
      wpAny (model prog w) (ktrTop dp un gd cn cs L a ccd cl outer) (call (.ref f) vs) Q E s
/-- the same for a list that is handed on -/
abbrev ClaimTL (prog : Program) (w : World) (p : Program) (loose : List Str) (mean : ExcName → Option Value) (mg mb : Str → Option Value) (f : Addr) (need : Nat) (l : Addr) (ws : List Value) (nl : Nat) (vs : List Value) (ns : List Int) (r : Int) (more : Bool) : Prop :=
  ∀ (dp un : Nat) (gd : Option (List Code)) (cn : Str) (cs : Scope) (a : Addr) (ccd : Value) (cl : List (Str × Addr)) (outer : List Env) (A₀ : Around) (base h₀ : Heap) (L : Addr) (m : Str → Option Value) (news : List (Addr × Obj)) (s : Shared) (Q E : Value → Shared → Prop),
    Below A₀ base outer h₀ → Fr h₀ L s.heap m → (hd.heap_39 w.params).In h₀ → News h₀ L s.heap news → (l, listOf (List.toArray ws) nl) ∈ news → Top p loose mean mg mb h₀ → cs.kind = .function →
    dp + need < recursionLimit → un + 8 * need < cLine → RetT h₀ L m news s Q ns r more →
      wpAny (model prog w) (ktrTop dp un gd cn cs L a ccd cl outer) (call (.ref f) vs) Q E s
theorem off1_of {D : Addr} : ∀ {l : List (Addr × Obj)}, LCg.Off1 D l → ∀ p ∈ l, p.1 ≠ D
  | [], _, _, h => nomatch h
  | q :: r, h, p, hp => by
    rcases List.mem_cons.mp hp with rfl | hp
    · exact h.1
    · exact off1_of h.2 p hp
theorem allLt_mem {d : Addr} : ∀ {l : List (Addr × Obj)}, AllLt d l → ∀ p ∈ l, p.1 < d
  | [], _, _, h => nomatch h
  | q :: r, h, p, hp => by
    rcases List.mem_cons.mp hp with rfl | hp
    · exact h.1
    · exact allLt_mem h.2 p hp
theorem retT {h₀ h' : Heap} {L : Addr} {m : Str → Option Value} {news news' : List (Addr × Obj)} {s : Shared} {Q : Value → Shared → Prop} {ns : List Int} {r : Int} {more : Bool} {T D : Addr} {us : List Value} {c : Nat} {t : Tok} {tk' : Nat}
    (hret : RetT h₀ L m news s Q ns r more) (F : Fr h₀ L h' m) (N : News h₀ L h' ((T, tup3 D r t more) :: (D, listOf (List.toArray us) c) :: news')) (hs : ∀ p ∈ news, p ∈ news') (hDT : @LT.lt Nat _ D T) (l1 : AllLt T news) (l2 : LCg.Off1 D news) (hi : IntsAre us ns) : Q (.ref T) { s with heap := h', toks := tk' } :=
  hret T D us c t h' tk' F (fun p hp => N p (by
    rcases List.mem_cons.mp hp with rfl | hp
    · exact .head _
    · rcases List.mem_cons.mp hp with rfl | hp
      · exact .tail _ (.head _)
      · exact .tail _ (.tail _ (hs p hp)))) hDT (allLt_mem l1) (off1_of l2) hi
section
variable {prog : Program} {w : World} {p : Program} {loose : List Str} {mean : ExcName → Option Value} {mg mb : Str → Option Value}
theorem pow_pos2 (k : Nat) : (0 : Int) < 2 ^ k := Int.pow_pos (by decide)
theorem mul_pow {A : Around} {E : Value → Shared → Prop} {s : Shared} {a : Int} {k : Nat} {t u : Tok} {Q : Value → Shared → Prop} (hk : k ≤ 8) (h : Q (.int (a * 2 ^ k) s.toks) { s with toks := s.toks + 1 }) : wpAny (model prog w) A (binaryOp .Mult (.int a t) (.int (2 ^ k) u)) Q E s := by
  refine mul_int h (IntMulOk.of_right (PySem.intBits_le_64 ?_ ?_))
  · have := pow_pos2 k; omega
  · exact Int.lt_of_le_of_lt (show (2 : Int) ^ k ≤ 2 ^ 8 from by have : ((2 ^ k : Nat) : Int) ≤ ((2 ^ 8 : Nat) : Int) := Int.ofNat_le.mpr (Nat.pow_le_pow_right (by decide) hk); rwa [Int.natCast_pow, Int.natCast_pow] at this) (by decide)
theorem log2_pow (k : Nat) : ((2 : Int) ^ k).natAbs.log2 = k := by
  rw [Int.natAbs_pow]
  exact Nat.log2_two_pow
theorem div_pow {A : Around} {E : Value → Shared → Prop} {s : Shared} {a : Int} {k : Nat} {t u : Tok} {Q : Value → Shared → Prop} (hk : k ≤ 100) (h : Q (.int (a / 2 ^ k) s.toks) { s with toks := s.toks + 1 }) : wpAny (model prog w) A (binaryOp .FloorDiv (.int a t) (.int (2 ^ k) u)) Q E s :=
  floordiv_int (Int.ne_of_gt (pow_pos2 k)) (by rw [Int.fdiv_eq_ediv_of_nonneg _ (Int.le_of_lt (pow_pos2 k))]; exact h) (.inl (PyProof.noPylong_of_log2 (by rw [log2_pow]; omega)))
theorem mod_pow {A : Around} {E : Value → Shared → Prop} {s : Shared} {a : Int} {k : Nat} {t u : Tok} {Q : Value → Shared → Prop} (h : Q (.int (a % 2 ^ k) s.toks) { s with toks := s.toks + 1 }) : wpAny (model prog w) A (binaryOp .Mod (.int a t) (.int (2 ^ k) u)) Q E s :=
  mod_int' (Int.ne_of_gt (pow_pos2 k)) (by rw [Int.fmod_eq_emod_of_nonneg _ (Int.le_of_lt (pow_pos2 k))]; exact h)
theorem div_c {A : Around} {E : Value → Shared → Prop} {s : Shared} {a c : Int} {t u : Tok} {Q : Value → Shared → Prop} (hc : 0 < c) (hc2 : c < 1073741824) (h : Q (.int (a / c) s.toks) { s with toks := s.toks + 1 }) : wpAny (model prog w) A (binaryOp .FloorDiv (.int a t) (.int c u)) Q E s :=
  floordiv_int (Int.ne_of_gt hc) (by rw [Int.fdiv_eq_ediv_of_nonneg _ (Int.le_of_lt hc)]; exact h) (.inl (PyProof.noPylong_small (by omega)))
theorem mod_c {A : Around} {E : Value → Shared → Prop} {s : Shared} {a c : Int} {t u : Tok} {Q : Value → Shared → Prop} (hc : 0 < c) (h : Q (.int (a % c) s.toks) { s with toks := s.toks + 1 }) : wpAny (model prog w) A (binaryOp .Mod (.int a t) (.int c u)) Q E s :=
  mod_int' (Int.ne_of_gt hc) (by rw [Int.fmod_eq_emod_of_nonneg _ (Int.le_of_lt hc)]; exact h)
theorem room_ge {n o w k : Int} (hw : 0 < w) (h0 : 0 ≤ k) (h1 : k < 0 + ((n * o / w - 0).toNat : Int)) : 0 ≤ n * o - w * (k + 1) := by
  have h2 : k + 1 ≤ n * o / w := by omega
  have h3 : w * (k + 1) ≤ w * (n * o / w) := Int.mul_le_mul_of_nonneg_left h2 (Int.le_of_lt hw)
  have h4 : w * (n * o / w) ≤ n * o := Int.mul_ediv_self_le (Int.ne_of_gt hw)
  omega
theorem room_le {m : Nat} {o w k : Int} (ho : 0 ≤ o ∧ o ≤ 8) (hw : 0 < w) (h0 : 0 ≤ k) (_h1 : k < 0 + (((m : Int) * o / w - 0).toNat : Int)) (hm : m ≤ 12) : (m : Int) * o - w * (k + 1) ≤ 1000 := by
  have h2 : 0 ≤ w * (k + 1) := Int.mul_nonneg (Int.le_of_lt hw) (by omega)
  have h3 : (m : Int) * o ≤ 12 * 8 := Int.mul_le_mul (by omega) ho.2 ho.1 (by decide)
  omega
theorem pow_2 {A : Around} {E : Value → Shared → Prop} {s : Shared} {n : Int} {t u : Tok} {Q : Value → Shared → Prop} (h0 : 0 ≤ n) (h1 : n ≤ 1000) (h : Q (.int (2 ^ n.toNat) s.toks) { s with toks := s.toks + 1 }) : wpAny (model prog w) A (binaryOp .Pow (.int 2 t) (.int n u)) Q E s :=
  pow_int h0 (by rw [show Builtin.Int.intBits 2 = 2 from by decide]; omega) h
local macro_rules | `(tactic| k_all) => `(tactic| first | assumption | exact Low.ne (by assumption) (by omega) | (refine' allNe_of ?a ?b; (case a => assumption); (case b => omega)) | (refine' all_lt_sub ?h ?s; (case h => assumption); (case s => (intro p9 hp9; (repeat (first | exact hp9 | refine List.Mem.tail _ ?_))))) | (refine' all_ne_sub ?h ?s; (case h => assumption); (case s => (intro p9 hp9; (repeat (first | exact hp9 | refine List.Mem.tail _ ?_))))) | exact List.forall_mem_nil _ | (refine' List.forall_mem_cons.mpr ⟨?a, ?b⟩; (case a => k_ne); (case b => k_all)) | (refine' off1_of ?a; (case a => (simp only [*]; done))) | fail "k_all")
theorem regB84 (b : Array UInt8) (tb t1 t2 : Tok) (hb : b.size ≤ 12) : ClaimT prog w p loose mean mg mb 202 1 [.bytes b tb, .int 8 t1, .int 4 t2] (regGroups 8 4 (KBw.bInts b)) (regRest 8 4 (KBw.bInts b)) (regMore 8 4 (KBw.bInts b)) := by
  dsimp only [ClaimT, RetT]
  intros
  rename_i hret
  refine wpAny_call ?_
  (refine' code_defC ?k1 ?k2 ?k3 ?k4 ?k5 ?kA ?kF ?kK ?k6 ?k7 ?k8 ?k9 ?kB ?kD ?_ ?c2 ?c3 ?c4; (case kA => exact rfl); (case kF => exact rfl); (case kK => assumption); (case k1 => k_asm); (case k2 => k_asm); (case k3 => k_asm); (case k4 => k_asm); (case k5 => k_asm); (case k6 => k_is); (case k7 => k_is); (case k8 => first | (dsimp only [ktrTop]; omega) | ktr_room); (case k9 => first | exact BindsTo.of_eq rfl | exact binds_K (by k_in) rfl (by k_is) rfl rfl rfl); (case kB => exact rfl); (case kD => decide +kernel); (case c2 => exact rfl); (case c3 => exact rfl); (case c4 => exact rfl); k_whole; intro g1 L1 h1 tk1 cells1 FG1 F1 N1 Y1 B1 X1 T1 l1; have lowM := Low.mk l1; (repeat replace lowM := Low.tail lowM); (try k_lt l1); k_cells Y1; (try simp only [List.cons_append, List.nil_append] at N1); (try dsimp only); (try k_lift B1); (try k_fold)  )
  (refine hide_defR (P := LeaveK _ _ _ _ _) ?_; intro K9 hR9; (try dsimp only))
  (refine let_around ?_; intro A9)
  k_with_none
  k_with "exec If" => (with_reducible refine wpAny_If ?_)
  k_with "isTrue Compare" => ((with_reducible show wpAny _ _ (isTrue (Expr.Compare (Expr.Name _ _) [CmpOp.Eq] [Expr.Constant (Const.int _) _ _] _) _ _) _ _ _); k_dflt (refine' test_eq ?F ?v ?_ ?a ?b ?d; (case F => k_asm); (case a => rfl); (case b => rfl); (case d => decide); (case v => rfl)); (try dsimp only))
  k_with "isTrue Compare" => ((with_reducible show wpAny _ _ (isTrue (Expr.Compare (Expr.Name _ _) [CmpOp.NotEq] [Expr.Constant (Const.int _) _ _] _) _ _) _ _ _); k_dflt (refine' test_ne ?F ?v ?_ ?a ?b ?d; (case F => k_asm); (case a => rfl); (case b => rfl); (case d => decide); (case v => rfl)); (try dsimp only))
  k_with "isTrue Compare" => ((with_reducible show wpAny _ _ (isTrue (Expr.Compare (Expr.Name _ _) [CmpOp.Lt] [Expr.Constant (Const.int _) _ _] _) _ _) _ _ _); k_dflt (refine' test_lt ?F ?v ?_ ?a ?b ?d; (case F => k_asm); (case a => rfl); (case b => rfl); (case d => decide); (case v => rfl)); (try dsimp only))
  k_with "isTrue Compare" => ((with_reducible show wpAny _ _ (isTrue (Expr.Compare (Expr.Name _ _) [CmpOp.LtE] [Expr.Constant (Const.int _) _ _] _) _ _) _ _ _); k_dflt (refine' test_le ?F ?v ?_ ?a ?b ?d; (case F => k_asm); (case a => rfl); (case b => rfl); (case d => decide); (case v => rfl)); (try dsimp only))
  k_with "isTrue Compare" => ((with_reducible show wpAny _ _ (isTrue (Expr.Compare (Expr.Name _ _) [CmpOp.GtE] [Expr.Constant (Const.int _) _ _] _) _ _) _ _ _); k_dflt (refine' test_ge ?F ?v ?_ ?a ?b ?d; (case F => k_asm); (case a => rfl); (case b => rfl); (case d => decide); (case v => rfl)); (try dsimp only))
  k_with "Thn" => first | (refine hK9 _ _ ?_; (try clear hK9); (try dsimp only)) | (refine hK9 _ ?_; (try clear hK9); (try dsimp only))
  k_with "Rtn" => (refine hR9 _ _ ?_)
  k_with "Trn" => (refine hN9 _ _ ?_; (try dsimp only))
  k_with "ThB" => refine thb_ite ?_
  k_with "ThB true" => (refine hT9 _ ?_; (try clear hT9 hF9); (try dsimp only [List.cons_append, List.nil_append, List.append_nil]))
  k_with "ThB false" => (refine hF9 _ ?_; (try clear hT9 hF9); (try dsimp only [List.cons_append, List.nil_append, List.append_nil]))
  k_with "execs cons If" => (refine flat_if ?_; intro K9 hT9 hF9)
  k_with "execs cons If" => k_dflt ((first | (refine' if_pb (lit := false) (n := 6) ?F ?c ?_ ?_; (case F => k_asm); (case c => exact rfl)) | (refine' if_p (lit := false) (n := 6) ?F ?c ?_ ?_; (case F => k_asm); (case c => exact rfl))); (all_goals (intro k9 hb9; first | (exfalso; omega) | dsimp only [List.cons_append, List.nil_append, List.append_nil] | skip)))
  k_with "execs cons If" => k_dflt ((first | (refine' if_T (lit := true) (n := 6) ?F ?c ?_; (case F => k_asm); (case c => exact rfl)) | (refine' if_F (lit := true) (n := 6) ?F ?c ?_; (case F => k_asm); (case c => exact rfl))); intro k9; (try dsimp only [List.cons_append, List.nil_append, List.append_nil]))
  k_with "execs cons If" => k_dflt (refine' if_p (lit := true) (n := 6) ?F ?c ?_ ?_; (case F => k_asm); (case c => exact rfl); (all_goals (intro k9 hb9; first | (exfalso; omega) | dsimp only [List.cons_append, List.nil_append, List.append_nil] | skip)))
  k_with "execs cons Assign" => ((fail_if_success (with_reducible show wpAny _ _ (execs (Stmt.Assign _ (Expr.ListComp _ _ _ _) _ :: _) _) _ _ _)); refine' flat_asg ?_ ?s; (case s => exact rfl); intro K9 hK9)
  k_with "execs cons Assign" => k_dflt (refine' asg_ev (n := 6) ?F ?N ?L ?x ?s ?e ?_; (case F => k_asm); (case N => k_asm); (case L => exact rfl); (case x => exact rfl); (case s => exact rfl); (case e => exact rfl); intro t9 k9 h' m9 F' N'; (try dsimp only); (try k_sweep))
  k_with "storeName" => k_dflt (refine' store_ev ?F ?N ?L ?x ?_; (case F => k_asm); (case N => k_asm); (case L => exact rfl); (case x => exact rfl); intro h' k9 m9 F' N'; (try dsimp only); (try k_sweep))
  k_with "execs cons Return" => (refine flat_ret ?_; intro K9 hK9)
  k_with "execs cons Return" => k_dflt (refine' ret_ev (n := 6) ?F ?e ?_; (case F => k_asm); (case e => exact rfl); intro t9 k9; (try dsimp only))
  k_with "execs cons Expr" => (refine' flat_expr ?_ ?i ?s; (case i => exact rfl); (case s => exact rfl); intro K9 hK9)
  k_with "execs cons Raise" => refine flat_raise ?_
  k_with "execs cons Continue" => refine flat_cont ?_
  k_with "spliced" => plain_pass; k_dflt (refine' args_ev (n := 6) ?F ?e ?_; (case F => k_asm); (case e => exact rfl); intro t9 k9; (try dsimp only [vals, List.cons_append, List.nil_append]))
  k_with "eval Call Name" => plain_pass; k_dflt (refine' callN_ev (n := 6) ?F ?X ?T ?f ?v ?w ?g ?e ?_ ?a ?b ?d; (case F => k_asm); (case e => exact rfl); (case b => exact rfl); (case X => k_asm); (case T => k_asm); (case a => exact rfl); (case f => k_is); (case v => boot_fast); (case w => exact rfl); (case g => decide); (case d => decide); intro t9 k9; (try dsimp only [vals]))
  k_with "eval Call Name" => plain_pass; k_dflt (refine' call_ev (n := 6) ?F ?X ?T ?f ?k ?e ?_ ?a ?b ?d; (case F => k_asm); (case e => exact rfl); (case b => exact rfl); (case X => k_asm); (case T => k_asm); (case a => exact rfl); (case f => k_is); (case k => k_is); (case d => decide); intro t9 k9; (try dsimp only [vals]))
  k_with "binaryOp Mult int int" => ((with_reducible refine mul_pow ?k1 ?_); (case k1 => omega))
  k_with "binaryOp FloorDiv int int" => first | (refine div_c ?k1 ?k2 ?_; (case k1 => decide); (case k2 => decide)) | (refine div_pow ?k1 ?_; (case k1 => omega)) | fail "div"
  k_with "binaryOp Mod int int" => first | (refine mod_c ?k1 ?_; (case k1 => decide)) | refine mod_pow ?_ | fail "mod"
  k_with "binaryOp Pow int int" => (refine pow_2 ?k1 ?k2 ?_; (case k1 => first | exact room_ge (by decide) (by assumption) (by assumption) | omega); (case k2 => first | exact room_le (by decide) (by decide) (by assumption) (by assumption) (by assumption) | omega))
  k_with "InvEndN" => refine stop ?_
  k_with "call builtin:len" => (refine' len_ints_fit (News.isList (by k_asm) (List.mem_cons_of_mem _ (List.mem_cons_of_mem _ (List.mem_cons_of_mem _ (by assumption))))) (by assumption) ?k1 ?_; (case k1 => omega))
  k_with "pyIter bytes" => refine stop ?_
  k_steps
  refine Stop.go ?_
  refine bytesForC (before := [(_, _)]) (after := (_, _) :: _) [Str.ofString "values", Str.ofString "old"] (fun pre a => a = numOf 8 pre) rfl (by k_asm) (by k_asm) (by k_all) (by assumption) (kv := [_, _]) (by rfl) rfl ?_ ?_
  · intro pre post n t u a ta o h tk own hbs hn0 hn1 hoff ho hP F1 N1
    simp only [ov] at F1
    simp only [List.cons_append, List.nil_append] at N1
    try k_fold
    refine hide_turn ?_; intro T9 hN9
    k_steps
    refine Stop.go (cellEnd (before := [(_, _)]) (after := (_, _) :: _) (by k_asm) (by k_asm) (by assumption) (by rfl) ?_)
    rw [numOf_snoc, hP]
    rfl
  · intro u a ta o h tk ho hP F1 N1
    simp only [ov] at F1
    simp only [List.cons_append, List.nil_append] at N1
    try k_fold
    k_steps
    refine retT hret (by k_asm) (r := regRest 8 4 (KBw.bInts b)) (more := regMore 8 4 (KBw.bInts b)) (by unfold regRest regMore; rw [KBw.ints_length, ← hP]; k_asm) (fun p hp => .tail _ (.tail _ (.tail _ hp))) (by omega) (by simp only [*]) (by simp only [*]) (by unfold regGroups; rw [KBw.ints_length, ← hP]; assumption)
theorem regB86 (b : Array UInt8) (tb t1 t2 : Tok) (hb : b.size ≤ 12) : ClaimT prog w p loose mean mg mb 202 1 [.bytes b tb, .int 8 t1, .int 6 t2] (regGroups 8 6 (KBw.bInts b)) (regRest 8 6 (KBw.bInts b)) (regMore 8 6 (KBw.bInts b)) := by
  dsimp only [ClaimT, RetT]
  intros
  rename_i hret
  refine wpAny_call ?_
  (refine' code_defC ?k1 ?k2 ?k3 ?k4 ?k5 ?kA ?kF ?kK ?k6 ?k7 ?k8 ?k9 ?kB ?kD ?_ ?c2 ?c3 ?c4; (case kA => exact rfl); (case kF => exact rfl); (case kK => assumption); (case k1 => k_asm); (case k2 => k_asm); (case k3 => k_asm); (case k4 => k_asm); (case k5 => k_asm); (case k6 => k_is); (case k7 => k_is); (case k8 => first | (dsimp only [ktrTop]; omega) | ktr_room); (case k9 => first | exact BindsTo.of_eq rfl | exact binds_K (by k_in) rfl (by k_is) rfl rfl rfl); (case kB => exact rfl); (case kD => decide +kernel); (case c2 => exact rfl); (case c3 => exact rfl); (case c4 => exact rfl); k_whole; intro g1 L1 h1 tk1 cells1 FG1 F1 N1 Y1 B1 X1 T1 l1; have lowM := Low.mk l1; (repeat replace lowM := Low.tail lowM); (try k_lt l1); k_cells Y1; (try simp only [List.cons_append, List.nil_append] at N1); (try dsimp only); (try k_lift B1); (try k_fold)  )
  (refine hide_defR (P := LeaveK _ _ _ _ _) ?_; intro K9 hR9; (try dsimp only))
  (refine let_around ?_; intro A9)
  k_with_none
  k_with "exec If" => (with_reducible refine wpAny_If ?_)
  k_with "isTrue Compare" => ((with_reducible show wpAny _ _ (isTrue (Expr.Compare (Expr.Name _ _) [CmpOp.Eq] [Expr.Constant (Const.int _) _ _] _) _ _) _ _ _); k_dflt (refine' test_eq ?F ?v ?_ ?a ?b ?d; (case F => k_asm); (case a => rfl); (case b => rfl); (case d => decide); (case v => rfl)); (try dsimp only))
  k_with "isTrue Compare" => ((with_reducible show wpAny _ _ (isTrue (Expr.Compare (Expr.Name _ _) [CmpOp.NotEq] [Expr.Constant (Const.int _) _ _] _) _ _) _ _ _); k_dflt (refine' test_ne ?F ?v ?_ ?a ?b ?d; (case F => k_asm); (case a => rfl); (case b => rfl); (case d => decide); (case v => rfl)); (try dsimp only))
  k_with "isTrue Compare" => ((with_reducible show wpAny _ _ (isTrue (Expr.Compare (Expr.Name _ _) [CmpOp.Lt] [Expr.Constant (Const.int _) _ _] _) _ _) _ _ _); k_dflt (refine' test_lt ?F ?v ?_ ?a ?b ?d; (case F => k_asm); (case a => rfl); (case b => rfl); (case d => decide); (case v => rfl)); (try dsimp only))
  k_with "isTrue Compare" => ((with_reducible show wpAny _ _ (isTrue (Expr.Compare (Expr.Name _ _) [CmpOp.LtE] [Expr.Constant (Const.int _) _ _] _) _ _) _ _ _); k_dflt (refine' test_le ?F ?v ?_ ?a ?b ?d; (case F => k_asm); (case a => rfl); (case b => rfl); (case d => decide); (case v => rfl)); (try dsimp only))
  k_with "isTrue Compare" => ((with_reducible show wpAny _ _ (isTrue (Expr.Compare (Expr.Name _ _) [CmpOp.GtE] [Expr.Constant (Const.int _) _ _] _) _ _) _ _ _); k_dflt (refine' test_ge ?F ?v ?_ ?a ?b ?d; (case F => k_asm); (case a => rfl); (case b => rfl); (case d => decide); (case v => rfl)); (try dsimp only))
  k_with "Thn" => first | (refine hK9 _ _ ?_; (try clear hK9); (try dsimp only)) | (refine hK9 _ ?_; (try clear hK9); (try dsimp only))
  k_with "Rtn" => (refine hR9 _ _ ?_)
  k_with "Trn" => (refine hN9 _ _ ?_; (try dsimp only))
  k_with "ThB" => refine thb_ite ?_
  k_with "ThB true" => (refine hT9 _ ?_; (try clear hT9 hF9); (try dsimp only [List.cons_append, List.nil_append, List.append_nil]))
  k_with "ThB false" => (refine hF9 _ ?_; (try clear hT9 hF9); (try dsimp only [List.cons_append, List.nil_append, List.append_nil]))
  k_with "execs cons If" => (refine flat_if ?_; intro K9 hT9 hF9)
  k_with "execs cons If" => k_dflt ((first | (refine' if_pb (lit := false) (n := 6) ?F ?c ?_ ?_; (case F => k_asm); (case c => exact rfl)) | (refine' if_p (lit := false) (n := 6) ?F ?c ?_ ?_; (case F => k_asm); (case c => exact rfl))); (all_goals (intro k9 hb9; first | (exfalso; omega) | dsimp only [List.cons_append, List.nil_append, List.append_nil] | skip)))
  k_with "execs cons If" => k_dflt ((first | (refine' if_T (lit := true) (n := 6) ?F ?c ?_; (case F => k_asm); (case c => exact rfl)) | (refine' if_F (lit := true) (n := 6) ?F ?c ?_; (case F => k_asm); (case c => exact rfl))); intro k9; (try dsimp only [List.cons_append, List.nil_append, List.append_nil]))
  k_with "execs cons If" => k_dflt (refine' if_p (lit := true) (n := 6) ?F ?c ?_ ?_; (case F => k_asm); (case c => exact rfl); (all_goals (intro k9 hb9; first | (exfalso; omega) | dsimp only [List.cons_append, List.nil_append, List.append_nil] | skip)))
  k_with "execs cons Assign" => ((fail_if_success (with_reducible show wpAny _ _ (execs (Stmt.Assign _ (Expr.ListComp _ _ _ _) _ :: _) _) _ _ _)); refine' flat_asg ?_ ?s; (case s => exact rfl); intro K9 hK9)
  k_with "execs cons Assign" => k_dflt (refine' asg_ev (n := 6) ?F ?N ?L ?x ?s ?e ?_; (case F => k_asm); (case N => k_asm); (case L => exact rfl); (case x => exact rfl); (case s => exact rfl); (case e => exact rfl); intro t9 k9 h' m9 F' N'; (try dsimp only); (try k_sweep))
  k_with "storeName" => k_dflt (refine' store_ev ?F ?N ?L ?x ?_; (case F => k_asm); (case N => k_asm); (case L => exact rfl); (case x => exact rfl); intro h' k9 m9 F' N'; (try dsimp only); (try k_sweep))
  k_with "execs cons Return" => (refine flat_ret ?_; intro K9 hK9)
  k_with "execs cons Return" => k_dflt (refine' ret_ev (n := 6) ?F ?e ?_; (case F => k_asm); (case e => exact rfl); intro t9 k9; (try dsimp only))
  k_with "execs cons Expr" => (refine' flat_expr ?_ ?i ?s; (case i => exact rfl); (case s => exact rfl); intro K9 hK9)
  k_with "execs cons Raise" => refine flat_raise ?_
  k_with "execs cons Continue" => refine flat_cont ?_
  k_with "spliced" => plain_pass; k_dflt (refine' args_ev (n := 6) ?F ?e ?_; (case F => k_asm); (case e => exact rfl); intro t9 k9; (try dsimp only [vals, List.cons_append, List.nil_append]))
  k_with "eval Call Name" => plain_pass; k_dflt (refine' callN_ev (n := 6) ?F ?X ?T ?f ?v ?w ?g ?e ?_ ?a ?b ?d; (case F => k_asm); (case e => exact rfl); (case b => exact rfl); (case X => k_asm); (case T => k_asm); (case a => exact rfl); (case f => k_is); (case v => boot_fast); (case w => exact rfl); (case g => decide); (case d => decide); intro t9 k9; (try dsimp only [vals]))
  k_with "eval Call Name" => plain_pass; k_dflt (refine' call_ev (n := 6) ?F ?X ?T ?f ?k ?e ?_ ?a ?b ?d; (case F => k_asm); (case e => exact rfl); (case b => exact rfl); (case X => k_asm); (case T => k_asm); (case a => exact rfl); (case f => k_is); (case k => k_is); (case d => decide); intro t9 k9; (try dsimp only [vals]))
  k_with "binaryOp Mult int int" => ((with_reducible refine mul_pow ?k1 ?_); (case k1 => omega))
  k_with "binaryOp FloorDiv int int" => first | (refine div_c ?k1 ?k2 ?_; (case k1 => decide); (case k2 => decide)) | (refine div_pow ?k1 ?_; (case k1 => omega)) | fail "div"
  k_with "binaryOp Mod int int" => first | (refine mod_c ?k1 ?_; (case k1 => decide)) | refine mod_pow ?_ | fail "mod"
  k_with "binaryOp Pow int int" => (refine pow_2 ?k1 ?k2 ?_; (case k1 => first | exact room_ge (by decide) (by assumption) (by assumption) | omega); (case k2 => first | exact room_le (by decide) (by decide) (by assumption) (by assumption) (by assumption) | omega))
  k_with "InvEndN" => refine stop ?_
  k_with "call builtin:len" => (refine' len_ints_fit (News.isList (by k_asm) (List.mem_cons_of_mem _ (List.mem_cons_of_mem _ (List.mem_cons_of_mem _ (by assumption))))) (by assumption) ?k1 ?_; (case k1 => omega))
  k_with "pyIter bytes" => refine stop ?_
  k_steps
  refine Stop.go ?_
  refine bytesForC (before := [(_, _)]) (after := (_, _) :: _) [Str.ofString "values", Str.ofString "old"] (fun pre a => a = numOf 8 pre) rfl (by k_asm) (by k_asm) (by k_all) (by assumption) (kv := [_, _]) (by rfl) rfl ?_ ?_
  · intro pre post n t u a ta o h tk own hbs hn0 hn1 hoff ho hP F1 N1
    simp only [ov] at F1
    simp only [List.cons_append, List.nil_append] at N1
    try k_fold
    refine hide_turn ?_; intro T9 hN9
    k_steps
    refine Stop.go (cellEnd (before := [(_, _)]) (after := (_, _) :: _) (by k_asm) (by k_asm) (by assumption) (by rfl) ?_)
    rw [numOf_snoc, hP]
    rfl
  · intro u a ta o h tk ho hP F1 N1
    simp only [ov] at F1
    simp only [List.cons_append, List.nil_append] at N1
    try k_fold
    k_steps
    refine retT hret (by k_asm) (r := regRest 8 6 (KBw.bInts b)) (more := regMore 8 6 (KBw.bInts b)) (by unfold regRest regMore; rw [KBw.ints_length, ← hP]; k_asm) (fun p hp => .tail _ (.tail _ (.tail _ hp))) (by omega) (by simp only [*]) (by simp only [*]) (by unfold regGroups; rw [KBw.ints_length, ← hP]; assumption)
theorem regL48 (l : Addr) (ws : List Value) (nl : Nat) (ns : List Int) (t1 t2 : Tok) (hw : IntsAre ws ns) (hb : ns.length ≤ 12) : ClaimTL prog w p loose mean mg mb 202 1 l ws nl [.ref l, .int 4 t1, .int 8 t2] (regGroups 4 8 ns) (regRest 4 8 ns) (regMore 4 8 ns) := by
  dsimp only [ClaimTL, RetT]
  intros
  rename_i hmem _ _ _ _ hret
  refine wpAny_call ?_
  (refine' code_defC ?k1 ?k2 ?k3 ?k4 ?k5 ?kA ?kF ?kK ?k6 ?k7 ?k8 ?k9 ?kB ?kD ?_ ?c2 ?c3 ?c4; (case kA => exact rfl); (case kF => exact rfl); (case kK => assumption); (case k1 => k_asm); (case k2 => k_asm); (case k3 => k_asm); (case k4 => k_asm); (case k5 => k_asm); (case k6 => k_is); (case k7 => k_is); (case k8 => first | (dsimp only [ktrTop]; omega) | ktr_room); (case k9 => first | exact BindsTo.of_eq rfl | exact binds_K (by k_in) rfl (by k_is) rfl rfl rfl); (case kB => exact rfl); (case kD => decide +kernel); (case c2 => exact rfl); (case c3 => exact rfl); (case c4 => exact rfl); k_whole; intro g1 L1 h1 tk1 cells1 FG1 F1 N1 Y1 B1 X1 T1 l1; have lowM := Low.mk l1; (repeat replace lowM := Low.tail lowM); (try k_lt l1); k_cells Y1; (try simp only [List.cons_append, List.nil_append] at N1); (try dsimp only); (try k_lift B1); (try k_fold)  )
  (refine hide_defR (P := LeaveK _ _ _ _ _) ?_; intro K9 hR9; (try dsimp only))
  (refine let_around ?_; intro A9)
  k_with_none
  k_with "exec If" => (with_reducible refine wpAny_If ?_)
  k_with "isTrue Compare" => ((with_reducible show wpAny _ _ (isTrue (Expr.Compare (Expr.Name _ _) [CmpOp.Eq] [Expr.Constant (Const.int _) _ _] _) _ _) _ _ _); k_dflt (refine' test_eq ?F ?v ?_ ?a ?b ?d; (case F => k_asm); (case a => rfl); (case b => rfl); (case d => decide); (case v => rfl)); (try dsimp only))
  k_with "isTrue Compare" => ((with_reducible show wpAny _ _ (isTrue (Expr.Compare (Expr.Name _ _) [CmpOp.NotEq] [Expr.Constant (Const.int _) _ _] _) _ _) _ _ _); k_dflt (refine' test_ne ?F ?v ?_ ?a ?b ?d; (case F => k_asm); (case a => rfl); (case b => rfl); (case d => decide); (case v => rfl)); (try dsimp only))
  k_with "isTrue Compare" => ((with_reducible show wpAny _ _ (isTrue (Expr.Compare (Expr.Name _ _) [CmpOp.Lt] [Expr.Constant (Const.int _) _ _] _) _ _) _ _ _); k_dflt (refine' test_lt ?F ?v ?_ ?a ?b ?d; (case F => k_asm); (case a => rfl); (case b => rfl); (case d => decide); (case v => rfl)); (try dsimp only))
  k_with "isTrue Compare" => ((with_reducible show wpAny _ _ (isTrue (Expr.Compare (Expr.Name _ _) [CmpOp.LtE] [Expr.Constant (Const.int _) _ _] _) _ _) _ _ _); k_dflt (refine' test_le ?F ?v ?_ ?a ?b ?d; (case F => k_asm); (case a => rfl); (case b => rfl); (case d => decide); (case v => rfl)); (try dsimp only))
  k_with "isTrue Compare" => ((with_reducible show wpAny _ _ (isTrue (Expr.Compare (Expr.Name _ _) [CmpOp.GtE] [Expr.Constant (Const.int _) _ _] _) _ _) _ _ _); k_dflt (refine' test_ge ?F ?v ?_ ?a ?b ?d; (case F => k_asm); (case a => rfl); (case b => rfl); (case d => decide); (case v => rfl)); (try dsimp only))
  k_with "Thn" => first | (refine hK9 _ _ ?_; (try clear hK9); (try dsimp only)) | (refine hK9 _ ?_; (try clear hK9); (try dsimp only))
  k_with "Rtn" => (refine hR9 _ _ ?_)
  k_with "Trn" => (refine hN9 _ _ ?_; (try dsimp only))
  k_with "ThB" => refine thb_ite ?_
  k_with "ThB true" => (refine hT9 _ ?_; (try clear hT9 hF9); (try dsimp only [List.cons_append, List.nil_append, List.append_nil]))
  k_with "ThB false" => (refine hF9 _ ?_; (try clear hT9 hF9); (try dsimp only [List.cons_append, List.nil_append, List.append_nil]))
  k_with "execs cons If" => (refine flat_if ?_; intro K9 hT9 hF9)
  k_with "execs cons If" => k_dflt ((first | (refine' if_pb (lit := false) (n := 6) ?F ?c ?_ ?_; (case F => k_asm); (case c => exact rfl)) | (refine' if_p (lit := false) (n := 6) ?F ?c ?_ ?_; (case F => k_asm); (case c => exact rfl))); (all_goals (intro k9 hb9; first | (exfalso; omega) | dsimp only [List.cons_append, List.nil_append, List.append_nil] | skip)))
  k_with "execs cons If" => k_dflt ((first | (refine' if_T (lit := true) (n := 6) ?F ?c ?_; (case F => k_asm); (case c => exact rfl)) | (refine' if_F (lit := true) (n := 6) ?F ?c ?_; (case F => k_asm); (case c => exact rfl))); intro k9; (try dsimp only [List.cons_append, List.nil_append, List.append_nil]))
  k_with "execs cons If" => k_dflt (refine' if_p (lit := true) (n := 6) ?F ?c ?_ ?_; (case F => k_asm); (case c => exact rfl); (all_goals (intro k9 hb9; first | (exfalso; omega) | dsimp only [List.cons_append, List.nil_append, List.append_nil] | skip)))
  k_with "execs cons Assign" => ((fail_if_success (with_reducible show wpAny _ _ (execs (Stmt.Assign _ (Expr.ListComp _ _ _ _) _ :: _) _) _ _ _)); refine' flat_asg ?_ ?s; (case s => exact rfl); intro K9 hK9)
  k_with "execs cons Assign" => k_dflt (refine' asg_ev (n := 6) ?F ?N ?L ?x ?s ?e ?_; (case F => k_asm); (case N => k_asm); (case L => exact rfl); (case x => exact rfl); (case s => exact rfl); (case e => exact rfl); intro t9 k9 h' m9 F' N'; (try dsimp only); (try k_sweep))
  k_with "storeName" => k_dflt (refine' store_ev ?F ?N ?L ?x ?_; (case F => k_asm); (case N => k_asm); (case L => exact rfl); (case x => exact rfl); intro h' k9 m9 F' N'; (try dsimp only); (try k_sweep))
  k_with "execs cons Return" => (refine flat_ret ?_; intro K9 hK9)
  k_with "execs cons Return" => k_dflt (refine' ret_ev (n := 6) ?F ?e ?_; (case F => k_asm); (case e => exact rfl); intro t9 k9; (try dsimp only))
  k_with "execs cons Expr" => (refine' flat_expr ?_ ?i ?s; (case i => exact rfl); (case s => exact rfl); intro K9 hK9)
  k_with "execs cons Raise" => refine flat_raise ?_
  k_with "execs cons Continue" => refine flat_cont ?_
  k_with "spliced" => plain_pass; k_dflt (refine' args_ev (n := 6) ?F ?e ?_; (case F => k_asm); (case e => exact rfl); intro t9 k9; (try dsimp only [vals, List.cons_append, List.nil_append]))
  k_with "eval Call Name" => plain_pass; k_dflt (refine' callN_ev (n := 6) ?F ?X ?T ?f ?v ?w ?g ?e ?_ ?a ?b ?d; (case F => k_asm); (case e => exact rfl); (case b => exact rfl); (case X => k_asm); (case T => k_asm); (case a => exact rfl); (case f => k_is); (case v => boot_fast); (case w => exact rfl); (case g => decide); (case d => decide); intro t9 k9; (try dsimp only [vals]))
  k_with "eval Call Name" => plain_pass; k_dflt (refine' call_ev (n := 6) ?F ?X ?T ?f ?k ?e ?_ ?a ?b ?d; (case F => k_asm); (case e => exact rfl); (case b => exact rfl); (case X => k_asm); (case T => k_asm); (case a => exact rfl); (case f => k_is); (case k => k_is); (case d => decide); intro t9 k9; (try dsimp only [vals]))
  k_with "binaryOp Mult int int" => ((with_reducible refine mul_pow ?k1 ?_); (case k1 => omega))
  k_with "binaryOp FloorDiv int int" => first | (refine div_c ?k1 ?k2 ?_; (case k1 => decide); (case k2 => decide)) | (refine div_pow ?k1 ?_; (case k1 => omega)) | fail "div"
  k_with "binaryOp Mod int int" => first | (refine mod_c ?k1 ?_; (case k1 => decide)) | refine mod_pow ?_ | fail "mod"
  k_with "binaryOp Pow int int" => (refine pow_2 ?k1 ?k2 ?_; (case k1 => first | exact room_ge (by decide) (by assumption) (by assumption) | omega); (case k2 => first | exact room_le (by decide) (by decide) (by assumption) (by assumption) (by assumption) | omega))
  k_with "InvEndN" => refine stop ?_
  k_with "call builtin:len" => (refine' len_ints_fit (News.isList (by k_asm) (List.mem_cons_of_mem _ (List.mem_cons_of_mem _ (List.mem_cons_of_mem _ (by assumption))))) (by assumption) ?k1 ?_; (case k1 => omega))
  k_with "pyIter ref" => refine stop ?_
  k_steps
  refine Stop.go ?_
  refine listForC (before := [(_, _)]) (after := (_, _) :: _) [Str.ofString "values", Str.ofString "old"] (fun pre a => a = numOf 4 pre) rfl (.tail _ hmem) hw (by k_asm) (by k_asm) (by k_all) (by assumption) (kv := [_, _]) (by rfl) rfl ?_ ?_
  · intro pre post n t u a ta o h tk own hbs hoff ho hP F1 N1
    simp only [ov] at F1
    simp only [List.cons_append, List.nil_append] at N1
    try k_fold
    refine hide_turn ?_; intro T9 hN9
    k_steps
    refine Stop.go (cellEnd (before := [(_, _)]) (after := (_, _) :: _) (by k_asm) (by k_asm) (by assumption) (by rfl) ?_)
    rw [numOf_snoc, hP]
    rfl
  · intro u a ta o h tk ho hP F1 N1
    simp only [ov] at F1
    simp only [List.cons_append, List.nil_append] at N1
    try k_fold
    k_steps
    refine retT hret (by k_asm) (r := regRest 4 8 ns) (more := regMore 4 8 ns) (by unfold regRest regMore; rw [← hP]; k_asm) (fun p hp => .tail _ (.tail _ (.tail _ hp))) (by omega) (by simp only [*]) (by simp only [*]) (by unfold regGroups; rw [← hP]; assumption)
theorem regL68 (l : Addr) (ws : List Value) (nl : Nat) (ns : List Int) (t1 t2 : Tok) (hw : IntsAre ws ns) (hb : ns.length ≤ 12) : ClaimTL prog w p loose mean mg mb 202 1 l ws nl [.ref l, .int 6 t1, .int 8 t2] (regGroups 6 8 ns) (regRest 6 8 ns) (regMore 6 8 ns) := by
  dsimp only [ClaimTL, RetT]
  intros
  rename_i hmem _ _ _ _ hret
  refine wpAny_call ?_
  (refine' code_defC ?k1 ?k2 ?k3 ?k4 ?k5 ?kA ?kF ?kK ?k6 ?k7 ?k8 ?k9 ?kB ?kD ?_ ?c2 ?c3 ?c4; (case kA => exact rfl); (case kF => exact rfl); (case kK => assumption); (case k1 => k_asm); (case k2 => k_asm); (case k3 => k_asm); (case k4 => k_asm); (case k5 => k_asm); (case k6 => k_is); (case k7 => k_is); (case k8 => first | (dsimp only [ktrTop]; omega) | ktr_room); (case k9 => first | exact BindsTo.of_eq rfl | exact binds_K (by k_in) rfl (by k_is) rfl rfl rfl); (case kB => exact rfl); (case kD => decide +kernel); (case c2 => exact rfl); (case c3 => exact rfl); (case c4 => exact rfl); k_whole; intro g1 L1 h1 tk1 cells1 FG1 F1 N1 Y1 B1 X1 T1 l1; have lowM := Low.mk l1; (repeat replace lowM := Low.tail lowM); (try k_lt l1); k_cells Y1; (try simp only [List.cons_append, List.nil_append] at N1); (try dsimp only); (try k_lift B1); (try k_fold)  )
  (refine hide_defR (P := LeaveK _ _ _ _ _) ?_; intro K9 hR9; (try dsimp only))
  (refine let_around ?_; intro A9)
  k_with_none
  k_with "exec If" => (with_reducible refine wpAny_If ?_)
  k_with "isTrue Compare" => ((with_reducible show wpAny _ _ (isTrue (Expr.Compare (Expr.Name _ _) [CmpOp.Eq] [Expr.Constant (Const.int _) _ _] _) _ _) _ _ _); k_dflt (refine' test_eq ?F ?v ?_ ?a ?b ?d; (case F => k_asm); (case a => rfl); (case b => rfl); (case d => decide); (case v => rfl)); (try dsimp only))
  k_with "isTrue Compare" => ((with_reducible show wpAny _ _ (isTrue (Expr.Compare (Expr.Name _ _) [CmpOp.NotEq] [Expr.Constant (Const.int _) _ _] _) _ _) _ _ _); k_dflt (refine' test_ne ?F ?v ?_ ?a ?b ?d; (case F => k_asm); (case a => rfl); (case b => rfl); (case d => decide); (case v => rfl)); (try dsimp only))
  k_with "isTrue Compare" => ((with_reducible show wpAny _ _ (isTrue (Expr.Compare (Expr.Name _ _) [CmpOp.Lt] [Expr.Constant (Const.int _) _ _] _) _ _) _ _ _); k_dflt (refine' test_lt ?F ?v ?_ ?a ?b ?d; (case F => k_asm); (case a => rfl); (case b => rfl); (case d => decide); (case v => rfl)); (try dsimp only))
  k_with "isTrue Compare" => ((with_reducible show wpAny _ _ (isTrue (Expr.Compare (Expr.Name _ _) [CmpOp.LtE] [Expr.Constant (Const.int _) _ _] _) _ _) _ _ _); k_dflt (refine' test_le ?F ?v ?_ ?a ?b ?d; (case F => k_asm); (case a => rfl); (case b => rfl); (case d => decide); (case v => rfl)); (try dsimp only))
  k_with "isTrue Compare" => ((with_reducible show wpAny _ _ (isTrue (Expr.Compare (Expr.Name _ _) [CmpOp.GtE] [Expr.Constant (Const.int _) _ _] _) _ _) _ _ _); k_dflt (refine' test_ge ?F ?v ?_ ?a ?b ?d; (case F => k_asm); (case a => rfl); (case b => rfl); (case d => decide); (case v => rfl)); (try dsimp only))
  k_with "Thn" => first | (refine hK9 _ _ ?_; (try clear hK9); (try dsimp only)) | (refine hK9 _ ?_; (try clear hK9); (try dsimp only))
  k_with "Rtn" => (refine hR9 _ _ ?_)
  k_with "Trn" => (refine hN9 _ _ ?_; (try dsimp only))
  k_with "ThB" => refine thb_ite ?_
  k_with "ThB true" => (refine hT9 _ ?_; (try clear hT9 hF9); (try dsimp only [List.cons_append, List.nil_append, List.append_nil]))
  k_with "ThB false" => (refine hF9 _ ?_; (try clear hT9 hF9); (try dsimp only [List.cons_append, List.nil_append, List.append_nil]))
  k_with "execs cons If" => (refine flat_if ?_; intro K9 hT9 hF9)
  k_with "execs cons If" => k_dflt ((first | (refine' if_pb (lit := false) (n := 6) ?F ?c ?_ ?_; (case F => k_asm); (case c => exact rfl)) | (refine' if_p (lit := false) (n := 6) ?F ?c ?_ ?_; (case F => k_asm); (case c => exact rfl))); (all_goals (intro k9 hb9; first | (exfalso; omega) | dsimp only [List.cons_append, List.nil_append, List.append_nil] | skip)))
  k_with "execs cons If" => k_dflt ((first | (refine' if_T (lit := true) (n := 6) ?F ?c ?_; (case F => k_asm); (case c => exact rfl)) | (refine' if_F (lit := true) (n := 6) ?F ?c ?_; (case F => k_asm); (case c => exact rfl))); intro k9; (try dsimp only [List.cons_append, List.nil_append, List.append_nil]))
  k_with "execs cons If" => k_dflt (refine' if_p (lit := true) (n := 6) ?F ?c ?_ ?_; (case F => k_asm); (case c => exact rfl); (all_goals (intro k9 hb9; first | (exfalso; omega) | dsimp only [List.cons_append, List.nil_append, List.append_nil] | skip)))
  k_with "execs cons Assign" => ((fail_if_success (with_reducible show wpAny _ _ (execs (Stmt.Assign _ (Expr.ListComp _ _ _ _) _ :: _) _) _ _ _)); refine' flat_asg ?_ ?s; (case s => exact rfl); intro K9 hK9)
  k_with "execs cons Assign" => k_dflt (refine' asg_ev (n := 6) ?F ?N ?L ?x ?s ?e ?_; (case F => k_asm); (case N => k_asm); (case L => exact rfl); (case x => exact rfl); (case s => exact rfl); (case e => exact rfl); intro t9 k9 h' m9 F' N'; (try dsimp only); (try k_sweep))
  k_with "storeName" => k_dflt (refine' store_ev ?F ?N ?L ?x ?_; (case F => k_asm); (case N => k_asm); (case L => exact rfl); (case x => exact rfl); intro h' k9 m9 F' N'; (try dsimp only); (try k_sweep))
  k_with "execs cons Return" => (refine flat_ret ?_; intro K9 hK9)
  k_with "execs cons Return" => k_dflt (refine' ret_ev (n := 6) ?F ?e ?_; (case F => k_asm); (case e => exact rfl); intro t9 k9; (try dsimp only))
  k_with "execs cons Expr" => (refine' flat_expr ?_ ?i ?s; (case i => exact rfl); (case s => exact rfl); intro K9 hK9)
  k_with "execs cons Raise" => refine flat_raise ?_
  k_with "execs cons Continue" => refine flat_cont ?_
  k_with "spliced" => plain_pass; k_dflt (refine' args_ev (n := 6) ?F ?e ?_; (case F => k_asm); (case e => exact rfl); intro t9 k9; (try dsimp only [vals, List.cons_append, List.nil_append]))
  k_with "eval Call Name" => plain_pass; k_dflt (refine' callN_ev (n := 6) ?F ?X ?T ?f ?v ?w ?g ?e ?_ ?a ?b ?d; (case F => k_asm); (case e => exact rfl); (case b => exact rfl); (case X => k_asm); (case T => k_asm); (case a => exact rfl); (case f => k_is); (case v => boot_fast); (case w => exact rfl); (case g => decide); (case d => decide); intro t9 k9; (try dsimp only [vals]))
  k_with "eval Call Name" => plain_pass; k_dflt (refine' call_ev (n := 6) ?F ?X ?T ?f ?k ?e ?_ ?a ?b ?d; (case F => k_asm); (case e => exact rfl); (case b => exact rfl); (case X => k_asm); (case T => k_asm); (case a => exact rfl); (case f => k_is); (case k => k_is); (case d => decide); intro t9 k9; (try dsimp only [vals]))
  k_with "binaryOp Mult int int" => ((with_reducible refine mul_pow ?k1 ?_); (case k1 => omega))
  k_with "binaryOp FloorDiv int int" => first | (refine div_c ?k1 ?k2 ?_; (case k1 => decide); (case k2 => decide)) | (refine div_pow ?k1 ?_; (case k1 => omega)) | fail "div"
  k_with "binaryOp Mod int int" => first | (refine mod_c ?k1 ?_; (case k1 => decide)) | refine mod_pow ?_ | fail "mod"
  k_with "binaryOp Pow int int" => (refine pow_2 ?k1 ?k2 ?_; (case k1 => first | exact room_ge (by decide) (by assumption) (by assumption) | omega); (case k2 => first | exact room_le (by decide) (by decide) (by assumption) (by assumption) (by assumption) | omega))
  k_with "InvEndN" => refine stop ?_
  k_with "call builtin:len" => (refine' len_ints_fit (News.isList (by k_asm) (List.mem_cons_of_mem _ (List.mem_cons_of_mem _ (List.mem_cons_of_mem _ (by assumption))))) (by assumption) ?k1 ?_; (case k1 => omega))
  k_with "pyIter ref" => refine stop ?_
  k_steps
  refine Stop.go ?_
  refine listForC (before := [(_, _)]) (after := (_, _) :: _) [Str.ofString "values", Str.ofString "old"] (fun pre a => a = numOf 6 pre) rfl (.tail _ hmem) hw (by k_asm) (by k_asm) (by k_all) (by assumption) (kv := [_, _]) (by rfl) rfl ?_ ?_
  · intro pre post n t u a ta o h tk own hbs hoff ho hP F1 N1
    simp only [ov] at F1
    simp only [List.cons_append, List.nil_append] at N1
    try k_fold
    refine hide_turn ?_; intro T9 hN9
    k_steps
    refine Stop.go (cellEnd (before := [(_, _)]) (after := (_, _) :: _) (by k_asm) (by k_asm) (by assumption) (by rfl) ?_)
    rw [numOf_snoc, hP]
    rfl
  · intro u a ta o h tk ho hP F1 N1
    simp only [ov] at F1
    simp only [List.cons_append, List.nil_append] at N1
    try k_fold
    k_steps
    refine retT hret (by k_asm) (r := regRest 6 8 ns) (more := regMore 6 8 ns) (by unfold regRest regMore; rw [← hP]; k_asm) (fun p hp => .tail _ (.tail _ (.tail _ hp))) (by omega) (by simp only [*]) (by simp only [*]) (by unfold regGroups; rw [← hP]; assumption)
end
end

theorem reset24 : True := by
  w_top off
  k_with_none
  trivial
local macro_rules | `(tactic| k_all) => `(tactic| first | assumption | exact Low.ne (by assumption) (by omega) | (refine' allNe_of ?a ?b; (case a => assumption); (case b => omega)) | (refine' all_lt_sub ?h ?s; (case h => assumption); (case s => (intro p9 hp9; (repeat (first | exact hp9 | refine List.Mem.tail _ ?_))))) | (refine' all_ne_sub ?h ?s; (case h => assumption); (case s => (intro p9 hp9; (repeat (first | exact hp9 | refine List.Mem.tail _ ?_))))) | exact List.forall_mem_nil _ | (refine' List.forall_mem_cons.mpr ⟨?a, ?b⟩; (case a => k_ne); (case b => k_all)) | (refine' off1_of ?a; (case a => (simp only [*]; done))) | fail "k_all")
section
theorem groups_in {old new : Nat} {ns : List Int} {k : Int} (h : k ∈ regGroups old new ns) : 0 ≤ k ∧ k < 2 ^ new := by
  unfold regGroups at h
  obtain ⟨j, _, rfl⟩ := List.mem_map.mp h
  exact ⟨Int.emod_nonneg _ (Int.ne_of_gt (pow_pos2 new)), Int.emod_lt_of_pos _ (pow_pos2 new)⟩
def sgn16 (i : Int) : Int := if i < 10 then i + 48 else i + 55
abbrev arr16 : Array UInt8 := #[48, 49, 50, 51, 52, 53, 54, 55, 56, 57, 65, 66, 67, 68, 69, 70]
theorem at16_nat : ∀ k : Fin 16, (KBw.bInts arr16).getD k.val 0 = sgn16 (k.val : Int) := by decide +kernel
theorem at16 {i : Int} (h0 : 0 ≤ i) (h1 : i < 16) : (KBw.bInts arr16).getD i.toNat 0 = sgn16 i := by
  have h := at16_nat ⟨i.toNat, by omega⟩
  simp only at h
  rw [h]
  congr 1
  omega
theorem sgn16_in {i : Int} (h0 : 0 ≤ i) (h1 : i < 16) : 0 ≤ sgn16 i ∧ sgn16 i < 256 := by
  unfold sgn16
  split <;> omega
def WhL (lo : Addr) (news : List (Addr × Obj)) (ks : List Str) (kv : List Value) (P : List Int → Prop) (μ : List Int → Nat) (n : Nat) (m : Str → Option Value) (nx : List (Addr × Obj)) : Prop :=
  ∃ (out : List Int) (vs : List Value) (nn : Nat), nx = (lo, listOf (List.toArray vs) nn) :: news ∧ IntsAre vs out ∧ ks.map m = kv.map some ∧ P out ∧ μ out = n
theorem whileList {prog : Program} {w : World} {A : Around} {E : Value → Shared → Prop} {s : Shared} {env : Env} {h₀ : Heap} {body : List Stmt} {Q : Flow → Shared → Prop} {L lo : Addr} {test : Expr} {pos : Pos} {vs₀ : List Value} {n₀ : Nat} {m₀ : Str → Option Value} {news : List (Addr × Obj)} {kv : List Value} {out₀ : List Int}
    (ks : List Str) (P : List Int → Prop) (μ : List Int → Nat)
    (F : Fr h₀ L s.heap m₀) (N : News h₀ L s.heap ((lo, listOf (List.toArray vs₀) n₀) :: news)) (hi : IntsAre vs₀ out₀) (hk : ks.map m₀ = kv.map some) (hp : P out₀)
    (turn : ∀ (u : Str → Option Value) (out : List Int) (vs : List Value) (nn : Nat) (h : Heap) (tk : Nat), IntsAre vs out → P out →
      Fr h₀ L h (ov ks kv u) → News h₀ L h ((lo, listOf (List.toArray vs) nn) :: news) →
      wpAny (model prog w) A (isTrue test env (eval test env)) (fun b s₂ => if b = true then wpAny (model prog w) A (execs body env) (WhileStep2 h₀ L s (WhL lo news ks kv P μ) Q (μ out)) E s₂ else Q .next s₂) E { s with heap := h, toks := tk })
    (hE : PassesOwn (model prog w) A env E) :
    wpAny (model prog w) A (exec (.While test body [] pos) env) Q E s := by
  refine While_inv2 (WhL lo news ks kv P μ) F N ⟨out₀, vs₀, n₀, rfl, hi, hk, hp, rfl⟩ ?_ hE
  rintro n m₁ nx h tk F₁ N₁ ⟨out, vs, nn, rfl, hI, hk', hp', rfl⟩
  exact turn m₁ out vs nn h tk hI hp' (by rw [ov_eq hk']; exact F₁) N₁
theorem whileListEnd {h₀ : Heap} {L lo : Addr} {news : List (Addr × Obj)} {ks : List Str} {kv : List Value} {P : List Int → Prop} {μ : List Int → Nat} {n : Nat} {m' : Str → Option Value} {vs : List Value} {out : List Int} {nn : Nat} {s : Shared} {h' : Heap} {tk : Nat} {Q : Flow → Shared → Prop}
    (F : Fr h₀ L h' m') (N : News h₀ L h' ((lo, listOf (List.toArray vs) nn) :: news)) (hi : IntsAre vs out) (hk : ks.map m' = kv.map some) (hp : P out) (hm : μ out < n) :
    WhileStep2 h₀ L s (WhL lo news ks kv P μ) Q n .next { s with heap := h', toks := tk } :=
  ⟨h', tk, m', _, _, rfl, F, N, hm, out, vs, nn, rfl, hi, hk, hp, rfl⟩
theorem map_in {f : Int → Int} {l : List Int} (h : ∀ k ∈ l, 0 ≤ f k ∧ f k < 256) : ∀ v ∈ l.map f, 0 ≤ v ∧ v < 256 := fun v hv => by
  obtain ⟨k, hk, rfl⟩ := List.mem_map.mp hv
  exact h k hk
section
variable {prog : Program} {w : World} {A : Around} {E : Value → Shared → Prop} {s : Shared} {value slice : PySem.Expr} {t ui : Tok} {i : Int} {Q : Value → Shared → Prop}
theorem item_16 (h0 : 0 ≤ i ∧ i < 16) (h : ∀ t' k, Q (.int (sgn16 i) t') { s with toks := k })
    (hs : subscripted slice false (.bytes arr16 t) (.int i ui) = operate [.bytes arr16 t, .int i ui] (getItem (.bytes arr16 t) (.int i ui)))
    (ht : ∀ r, letTemporaryGo value (.bytes arr16 t) r = pure ()) : wpAny (model prog w) A (subscriptTail value slice (.bytes arr16 t) (.int i ui)) Q E s :=
  KBw.item_K (ks := KBw.bInts arr16) rfl (by decide +kernel) h0.1 (by rw [KBw.ints_length]; exact h0.2) (fun t' k _ _ => by rw [at16 h0.1 h0.2]; exact h t' k) hs ht
theorem append_L {h₀ : Heap} {L D : Addr} {m : Str → Option Value} {news news' : List (Addr × Obj)} {us : List Value} {nn : Nat} {ns : List Int} {a : Int} (Fh : Fr h₀ L s.heap m) (N : News h₀ L s.heap news) (U : Upd D (listOf (List.toArray us) nn) (listOf (List.toArray (us ++ [.int a t])) (nn + 1)) news news') (hi : IntsAre us ns) (hn : ns.length ≤ 1000)
    (h : ∀ h', Fr h₀ L h' m → News h₀ L h' news' → IntsAre (us ++ [.int a t]) (ns ++ [a]) → Q .none { s with heap := h' }) : wpAny (model prog w) A (call (.builtin "list.append") [.ref D, .int a t]) Q E s := by
  rw [← List.push_toArray] at U
  exact append_K Fh N U (fun h' F' N' => h h' F' N' (IntsAre.append hi (.cons _ _ .nil))) (by rw [List.size_toArray, hi.length, sizeLine_eq]; omega)
theorem bytes_ofL {h₀ : Heap} {L D : Addr} {m : Str → Option Value} {news : List (Addr × Obj)} {us : List Value} {nn : Nat} {ns : List Int} (Fh : Fr h₀ L s.heap m) (N : News h₀ L s.heap news) (hm : (D, listOf (List.toArray us) nn) ∈ news) (hh : A.handled = none)
    (hi : IntsAre us ns) (hr : ∀ v ∈ ns, 0 ≤ v ∧ v < 256) (hn : ns.length ≤ 16777216)
    (h : ∀ h' t' k, Fr h₀ L h' m → News h₀ L h' news → Q (.bytes (byteArr ns) t') { s with heap := h', toks := k }) : wpAny (model prog w) A (call (.type "bytes") [.ref D]) Q E s :=
  bytes_of Fh N hm hh (show IntsAre us.toArray.toList ns from hi) hr hn h
end
section
variable {prog : Program} {w : World} {p : Program} {loose : List Str} {mean : ExcName → Option Value} {mg mb : Str → Option Value}
theorem law_sixteen (b : Array UInt8) (tb : Tok) (hb : b.size ≤ 12) : Claim prog w p loose mean mg mb 207 2 [.bytes b tb] (fun t => .bytes (byteArr ((regGroups 8 4 (KBw.bInts b)).map sgn16)) t) := by
  dsimp only [Claim, RetV]
  intros
  rename_i hret
  refine wpAny_call ?_
  (refine' code_def ?k1 ?k2 ?k3 ?k4 ?k5 ?kA ?kF ?kK ?k6 ?k7 ?k8 ?k9 ?kB ?_ ?c2 ?c3 ?c4 ?c5; (case kA => exact rfl); (case kF => exact rfl); (case kK => assumption); (case k1 => k_asm); (case k2 => k_asm); (case k3 => k_asm); (case k4 => k_asm); (case k5 => k_asm); (case k6 => k_is); (case k7 => k_is); (case k8 => first | (dsimp only [ktrTop]; omega) | ktr_room); (case k9 => first | exact BindsTo.of_eq rfl | exact binds_K (by k_in) rfl (by k_is) rfl rfl rfl); (case c5 => decide); (case kB => exact locs rfl); (case c2 => exact rfl); (case c3 => exact rfl); (case c4 => exact rfl); k_whole; intro g1 L1 h1 FG1 F1 N1 B1 X1 T1; (try dsimp only); (try k_lift B1); (try k_fold))
  (refine hide_def (P := LeaveK _ _ _ _ _) ?_; intro K9 X9 hR9; (try dsimp only))
  (refine let_around ?_; intro A9)
  k_with_none
  k_with "exec If" => (with_reducible refine wpAny_If ?_)
  k_with "isTrue Compare" => ((with_reducible show wpAny _ _ (isTrue (Expr.Compare (Expr.Name _ _) [CmpOp.Eq] [Expr.Constant (Const.int _) _ _] _) _ _) _ _ _); k_dflt (refine' test_eq ?F ?v ?_ ?a ?b ?d; (case F => k_asm); (case a => rfl); (case b => rfl); (case d => decide); (case v => rfl)); (try dsimp only))
  k_with "isTrue Compare" => ((with_reducible show wpAny _ _ (isTrue (Expr.Compare (Expr.Name _ _) [CmpOp.NotEq] [Expr.Constant (Const.int _) _ _] _) _ _) _ _ _); k_dflt (refine' test_ne ?F ?v ?_ ?a ?b ?d; (case F => k_asm); (case a => rfl); (case b => rfl); (case d => decide); (case v => rfl)); (try dsimp only))
  k_with "isTrue Compare" => ((with_reducible show wpAny _ _ (isTrue (Expr.Compare (Expr.Name _ _) [CmpOp.Lt] [Expr.Constant (Const.int _) _ _] _) _ _) _ _ _); k_dflt (refine' test_lt ?F ?v ?_ ?a ?b ?d; (case F => k_asm); (case a => rfl); (case b => rfl); (case d => decide); (case v => rfl)); (try dsimp only))
  k_with "isTrue Compare" => ((with_reducible show wpAny _ _ (isTrue (Expr.Compare (Expr.Name _ _) [CmpOp.LtE] [Expr.Constant (Const.int _) _ _] _) _ _) _ _ _); k_dflt (refine' test_le ?F ?v ?_ ?a ?b ?d; (case F => k_asm); (case a => rfl); (case b => rfl); (case d => decide); (case v => rfl)); (try dsimp only))
  k_with "isTrue Compare" => ((with_reducible show wpAny _ _ (isTrue (Expr.Compare (Expr.Name _ _) [CmpOp.GtE] [Expr.Constant (Const.int _) _ _] _) _ _) _ _ _); k_dflt (refine' test_ge ?F ?v ?_ ?a ?b ?d; (case F => k_asm); (case a => rfl); (case b => rfl); (case d => decide); (case v => rfl)); (try dsimp only))
  k_with "Thn" => first | (refine hK9 _ _ ?_; (try clear hK9); (try dsimp only)) | (refine hK9 _ ?_; (try clear hK9); (try dsimp only))
  k_with "Rtn" => (refine hR9 _ _ ?_)
  k_with "Trn" => (refine hN9 _ _ ?_; (try dsimp only))
  k_with "ThB" => refine thb_ite ?_
  k_with "ThB true" => (refine hT9 _ ?_; (try clear hT9 hF9); (try dsimp only [List.cons_append, List.nil_append, List.append_nil]))
  k_with "ThB false" => (refine hF9 _ ?_; (try clear hT9 hF9); (try dsimp only [List.cons_append, List.nil_append, List.append_nil]))
  k_with "execs cons If" => (refine flat_if ?_; intro K9 hT9 hF9)
  k_with "execs cons If" => k_dflt ((first | (refine' if_pb (lit := false) (n := 6) ?F ?c ?_ ?_; (case F => k_asm); (case c => exact rfl)) | (refine' if_p (lit := false) (n := 6) ?F ?c ?_ ?_; (case F => k_asm); (case c => exact rfl))); (all_goals (intro k9 hb9; first | (exfalso; omega) | dsimp only [List.cons_append, List.nil_append, List.append_nil] | skip)))
  k_with "execs cons If" => k_dflt ((first | (refine' if_T (lit := true) (n := 6) ?F ?c ?_; (case F => k_asm); (case c => exact rfl)) | (refine' if_F (lit := true) (n := 6) ?F ?c ?_; (case F => k_asm); (case c => exact rfl))); intro k9; (try dsimp only [List.cons_append, List.nil_append, List.append_nil]))
  k_with "execs cons If" => k_dflt (refine' if_p (lit := true) (n := 6) ?F ?c ?_ ?_; (case F => k_asm); (case c => exact rfl); (all_goals (intro k9 hb9; first | (exfalso; omega) | dsimp only [List.cons_append, List.nil_append, List.append_nil] | skip)))
  k_with "execs cons Assign" => ((fail_if_success (with_reducible show wpAny _ _ (execs (Stmt.Assign _ (Expr.ListComp _ _ _ _) _ :: _) _) _ _ _)); refine' flat_asg ?_ ?s; (case s => exact rfl); intro K9 hK9)
  k_with "execs cons Assign" => k_dflt (refine' asg_ev (n := 6) ?F ?N ?L ?x ?s ?e ?_; (case F => k_asm); (case N => k_asm); (case L => exact rfl); (case x => exact rfl); (case s => exact rfl); (case e => exact rfl); intro t9 k9 h' m9 F' N'; (try dsimp only); (try k_sweep))
  k_with "storeName" => k_dflt (refine' store_ev ?F ?N ?L ?x ?_; (case F => k_asm); (case N => k_asm); (case L => exact rfl); (case x => exact rfl); intro h' k9 m9 F' N'; (try dsimp only); (try k_sweep))
  k_with "execs cons Return" => (refine flat_ret ?_; intro K9 hK9)
  k_with "execs cons Return" => k_dflt (refine' ret_ev (n := 6) ?F ?e ?_; (case F => k_asm); (case e => exact rfl); intro t9 k9; (try dsimp only))
  k_with "execs cons Expr" => (refine' flat_expr ?_ ?i ?s; (case i => exact rfl); (case s => exact rfl); intro K9 hK9)
  k_with "execs cons Raise" => refine flat_raise ?_
  k_with "execs cons Continue" => refine flat_cont ?_
  k_with "spliced" => plain_pass; k_dflt (refine' args_ev (n := 6) ?F ?e ?_; (case F => k_asm); (case e => exact rfl); intro t9 k9; (try dsimp only [vals, List.cons_append, List.nil_append]))
  k_with "eval Call Name" => plain_pass; k_dflt (refine' callN_ev (n := 6) ?F ?X ?T ?f ?v ?w ?g ?e ?_ ?a ?b ?d; (case F => k_asm); (case e => exact rfl); (case b => exact rfl); (case X => k_asm); (case T => k_asm); (case a => exact rfl); (case f => k_is); (case v => boot_fast); (case w => exact rfl); (case g => decide); (case d => decide); intro t9 k9; (try dsimp only [vals]))
  k_with "eval Call Name" => plain_pass; k_dflt (refine' call_ev (n := 6) ?F ?X ?T ?f ?k ?e ?_ ?a ?b ?d; (case F => k_asm); (case e => exact rfl); (case b => exact rfl); (case X => k_asm); (case T => k_asm); (case a => exact rfl); (case f => k_is); (case k => k_is); (case d => decide); intro t9 k9; (try dsimp only [vals]))
  k_with "call ref" => ((with_reducible show wpAny _ _ (call (Value.ref 202) [Value.bytes _ _, Value.int 8 _, Value.int 4 _]) _ _ _); (refine' regB84 _ _ _ _ (by assumption) _ _ _ _ _ _ _ _ _ _ _ _ _ _ _ _ _ _ ?k1 ?k2 ?k3 ?k4 ?k5 ?kK ?kd ?ku ?_; (case k1 => k_asm); (case k2 => k_asm); (case k3 => k_asm); (case k4 => k_asm); (case k5 => k_asm); (case kK => first | exact rfl | assumption); (case kd => first | (dsimp only [Around.deeper]; omega) | ktr_room); (case ku => first | (dsimp only [Around.deeper]; omega) | ktr_units); intro T9 D9 us9 c9 t9 h9 k9 F9 N9 lD9 lT9 ln9 hI9; (have hz9 := IntsAre.length hI9); (rw [regGroups_len] at hz9); (try rw [KBw.ints_length] at hz9); (try dsimp only); (try k_fold)))
  k_with "eval ListComp" => (k_here; k_dflt (refine LCg.ListComp_U (F₀ := by k_asm) (by with_unfolding_all rfl) (by decide) (by rfl) (by decide) (by rfl) ?_))
  k_with "exec Assign cons ListComp" => (k_here; k_dflt (refine LCg.Assign_ListComp_U (F₀ := by k_asm) (by rfl) (by with_unfolding_all rfl) (by with_unfolding_all rfl) (by decide) (by rfl) (by decide) (by rfl) (by rfl) (by rfl) ?_))
  k_with "CompSrc" => (k_here; k_dflt (refine LCg.CompSrc.ledger (by rfl) (by k_asm) (by k_asm) (by k_mem) (by rw [sizeLine_eq, List.size_toArray]; (try simp only [List.length_append, List.length_cons, List.length_nil]); omega) ?_; intro g'; (refine' kcf_list _ (by assumption) (fun k' t' I' oI' C' oC' D' m' ys' h' tk' E' hk' hC' hx' F' N' off' ne' hMark' => ?_) ?_); (all_goals (try (simp only [LCg.Off3, and_true] at off'))); kcf_last))
  k_with "subscriptTail" => ((with_reducible show wpAny _ _ (subscriptTail _ _ (Value.bytes _ _) (Value.int _ _)) _ _ _); (refine' item_16 ?k1 ?_ ?k3 ?k4; (case k1 => exact groups_in (by assumption)); (case k3 => with_unfolding_all rfl); (case k4 => (intro _; with_unfolding_all rfl)); intro t9 k9; (try dsimp only)))
  k_with "call type:bytes" => refine stop ?_
  k_steps
  refine Stop.go (bytes_ofL (by k_asm) (by k_asm) (.head _) rfl (by assumption) (map_in fun k hk => sgn16_in (groups_in hk).1 (groups_in hk).2) (by rw [List.length_map, regGroups_len, KBw.ints_length]; omega) ?_)
  intro h8 t8 k8 F8 N8
  k_steps
  exact retV _ hret (by k_asm) (by k_asm) (fun p hp => .tail _ (.tail _ (.tail _ hp))) rfl
end
end

theorem reset25 : True := by
  w_top off
  k_with_none
  trivial
section
theorem regRest_in {old new : Nat} (hn : 0 < new) (ns : List Int) : 0 ≤ regRest old new ns ∧ regRest old new ns < 2 ^ new := by
  unfold regRest
  have h0 : 0 ≤ (ns.length : Int) * old % new := Int.emod_nonneg _ (by omega)
  have h1 : (ns.length : Int) * old % new < new := Int.emod_lt_of_pos _ (by omega)
  generalize (ns.length : Int) * old % new = j at h0 h1
  obtain ⟨k, rfl⟩ := Int.eq_ofNat_of_zero_le h0
  have e : (((new : Int) - (k : Int)).toNat) = new - k := by omega
  rw [e, Int.toNat_natCast]
  have hk : k < new := by omega
  have p1 := pow_pos2 k
  have p2 := pow_pos2 (new - k)
  have a0 : 0 ≤ numOf old ns % 2 ^ k := Int.emod_nonneg _ (Int.ne_of_gt p1)
  have a1 : numOf old ns % 2 ^ k < 2 ^ k := Int.emod_lt_of_pos _ p1
  have e2 : (2 : Int) ^ new = 2 ^ k * 2 ^ (new - k) := by rw [← Int.pow_add]; congr 1; omega
  rw [e2]
  exact ⟨Int.mul_nonneg a0 (Int.le_of_lt p2), Int.mul_lt_mul_of_pos_right a1 p2⟩
def places (ns : List Int) : List Int := if regMore 8 6 ns = true then regGroups 8 6 ns ++ [regRest 8 6 ns] else regGroups 8 6 ns
def signAt (c : Array UInt8) (i : Int) : Int := (signs62 ++ KBw.bInts c).getD i.toNat 0
theorem signAt_in {c : Array UInt8} {i : Int} : 0 ≤ signAt c i ∧ signAt c i < 256 := by
  have h : ∀ v ∈ signs62 ++ KBw.bInts c, 0 ≤ v ∧ v < 256 := fun v hv => by
    rcases List.mem_append.mp hv with h | h
    · exact (show ∀ v ∈ signs62, 0 ≤ v ∧ v < 256 from by decide) v h
    · exact KBw.ints_in h
  unfold signAt
  rw [List.getD_eq_getElem?_getD]
  cases e : (signs62 ++ KBw.bInts c)[i.toNat]? with
  | none => decide
  | some v => exact h v (List.mem_of_getElem? e)
theorem places_in {ns : List Int} {k : Int} (h : k ∈ places ns) : 0 ≤ k ∧ k < 64 := by
  unfold places at h
  split at h
  · rcases List.mem_append.mp h with h | h
    · exact groups_in h
    · rw [List.mem_singleton.mp h]; exact regRest_in (by decide) ns
  · exact groups_in h
theorem places_len (ns : List Int) : (places ns).length ≤ (ns.length * 8) / 6 + 1 := by
  unfold places
  split <;> simp only [List.length_append, regGroups_len, List.length_cons, List.length_nil] <;> omega
theorem place_in1 {ns : List Int} {k : Int} (h : k ∈ regGroups 8 6 ns ++ [regRest 8 6 ns]) : 0 ≤ k ∧ k < 64 := by
  rcases List.mem_append.mp h with h | h
  · exact groups_in h
  · rw [List.mem_singleton.mp h]; exact regRest_in (by decide) ns
def pads (n : Nat) : Nat := (4 - n % 4) % 4
def pad4 (l : List Int) : List Int := l ++ List.replicate (pads l.length) 61
/-- base 64 of a row, by the law -/
def spec64 (c : Array UInt8) (ns : List Int) : List Int := pad4 ((places ns).map (signAt c))
theorem sign_item {prog : Program} {w : World} {A : Around} {E : Value → Shared → Prop} {s : Shared} {value slice : PySem.Expr} {l : Addr} {us : List Value} {c : Array UInt8} {k : Int} {u : Tok} {Q : Value → Shared → Prop} (hl : s.heap.IsList l us.toArray) (hi : IntsAre us (signs62 ++ KBw.bInts c)) (hc : c.size = 2)
    (h0 : 0 ≤ k ∧ k < 64) (h : ∀ t, Q (.int (signAt c k) t) s)
    (hs : subscripted slice false (.ref l) (.int k u) = operate [.ref l, .int k u] (getItem (.ref l) (.int k u))) : wpAny (model prog w) A (subscriptTail value slice (.ref l) (.int k u)) Q E s :=
  item_anyK hl hi h0.1 (by rw [List.length_append, KBw.ints_length, hc]; simp only [List.length_cons, List.length_nil]; omega) (by omega) h hs
theorem pad4_len (l : List Int) : (pad4 l).length = l.length + pads l.length := by
  unfold pad4
  rw [List.length_append, List.length_replicate]
/-- between the turns of the padding loop -/
def PadP (l out : List Int) : Prop := ∃ k, k ≤ pads l.length ∧ out = l ++ List.replicate k 61
theorem PadP.done {l out : List Int} (h : PadP l out) (e : out.length % 4 = 0) : out = pad4 l := by
  obtain ⟨k, hk, rfl⟩ := h
  rw [List.length_append, List.length_replicate] at e
  unfold pads at hk
  have : k = pads l.length := by unfold pads; omega
  rw [this]
  rfl
theorem PadP.next {l out : List Int} (h : PadP l out) (e : out.length % 4 ≠ 0) : PadP l (out ++ [61]) := by
  obtain ⟨k, hk, rfl⟩ := h
  rw [List.length_append, List.length_replicate] at e
  refine ⟨k + 1, ?_, by rw [List.append_assoc, ← List.replicate_succ']⟩
  unfold pads at *
  omega
theorem PadP.all {l out : List Int} (h : PadP l out) (hl : ∀ v ∈ l, 0 ≤ v ∧ v < 256) : ∀ v ∈ out, 0 ≤ v ∧ v < 256 := by
  obtain ⟨k, _, rfl⟩ := h
  intro v hv
  rcases List.mem_append.mp hv with h | h
  · exact hl v h
  · rw [List.eq_of_mem_replicate h]; decide
theorem spec64_more {c : Array UInt8} {ns : List Int} (h : regMore 8 6 ns = true) : spec64 c ns = pad4 (List.map (fun k => signAt c k) (regGroups 8 6 ns ++ [regRest 8 6 ns])) := by
  unfold spec64 places
  rw [if_pos h]
theorem spec64_even {c : Array UInt8} {ns : List Int} (h : regMore 8 6 ns = false) : spec64 c ns = pad4 (List.map (fun k => signAt c k) (regGroups 8 6 ns)) := by
  unfold spec64 places
  rw [if_neg (by rw [h]; decide)]
theorem PadP.start (l : List Int) : PadP l l := ⟨0, Nat.zero_le _, by simp⟩
theorem PadP.len {l out : List Int} (h : PadP l out) : out.length ≤ l.length + 3 := by
  obtain ⟨k, hk, rfl⟩ := h
  rw [List.length_append, List.length_replicate]
  unfold pads at hk
  omega
/-- behind the choice: the places whole -/
inductive PlB (g : Heap) (L : Addr) (x : Addr × Obj) (post : List (Addr × Obj)) (D : Addr) (m : Str → Option Value) (ns : List Int) (s : Shared) : Flow → Shared → Prop
  | mk (us : List Value) (n : Nat) (h' : Heap) (tk' : Nat) : IntsAre us (places ns) → Fr g L h' m → News g L h' (x :: (D, listOf (List.toArray us) n) :: post) → PlB g L x post D m ns s .next { s with heap := h', toks := tk' }
theorem PlB.more {g : Heap} {L : Addr} {x : Addr × Obj} {post : List (Addr × Obj)} {D : Addr} {m : Str → Option Value} {ns : List Int} {s : Shared} {us : List Value} {n : Nat} {h' : Heap} {tk' : Nat} {t : Tok} (hm : regMore 8 6 ns = true) (hI : IntsAre us (regGroups 8 6 ns)) (F : Fr g L h' m) (N : News g L h' (x :: (D, listOf (List.toArray (us ++ [.int (regRest 8 6 ns) t])) n) :: post)) :
    PlB g L x post D m ns s .next { s with heap := h', toks := tk' } :=
  .mk _ n h' tk' (by unfold places; rw [if_pos hm]; exact hI.append (.cons _ _ .nil)) F N
theorem PlB.even {g : Heap} {L : Addr} {x : Addr × Obj} {post : List (Addr × Obj)} {D : Addr} {m : Str → Option Value} {ns : List Int} {s : Shared} {us : List Value} {n : Nat} {h' : Heap} {tk' : Nat} (hm : regMore 8 6 ns = false) (hI : IntsAre us (regGroups 8 6 ns)) (F : Fr g L h' m) (N : News g L h' (x :: (D, listOf (List.toArray us) n) :: post)) :
    PlB g L x post D m ns s .next { s with heap := h', toks := tk' } :=
  .mk us n h' tk' (by unfold places; rw [if_neg (by rw [hm]; decide)]; exact hI) F N
theorem PlB.walk {M : Model} {A : Around} {t : Sem Flow} {g : Heap} {L : Addr} {x : Addr × Obj} {post : List (Addr × Obj)} {D : Addr} {m : Str → Option Value} {ns : List Int} {us : List Value} {c : Nat} {s : Shared} {Q : Flow → Shared → Prop} {E : Value → Shared → Prop} (_N : News g L s.heap (x :: (D, listOf (List.toArray us) c) :: post)) (_F : Fr g L s.heap m) (h : wpAny M A t (PlB g L x post D m ns s) E s)
    (k : ∀ us n h' tk', IntsAre us (places ns) → Fr g L h' m → News g L h' (x :: (D, listOf (List.toArray us) n) :: post) → Q .next { s with heap := h', toks := tk' }) : wpAny M A t Q E s :=
  wpAny_mono h (fun _ _ hf => by cases hf; exact k _ _ _ _ (by assumption) (by assumption) (by assumption)) fun _ _ e => e
section
variable {prog : Program} {w : World} {p : Program} {loose : List Str} {mean : ExcName → Option Value} {mg mb : Str → Option Value}
theorem law_sixty_four (b c : Array UInt8) (tb tc : Tok) (hb : b.size ≤ 12) (hc : c.size = 2) : Claim prog w p loose mean mg mb 212 2 [.bytes b tb, .bytes c tc] (fun t => .bytes (byteArr (spec64 c (KBw.bInts b))) t) := by
  dsimp only [Claim, RetV]
  intros
  rename_i hret
  refine wpAny_call ?_
  (refine' code_defC ?k1 ?k2 ?k3 ?k4 ?k5 ?kA ?kF ?kK ?k6 ?k7 ?k8 ?k9 ?kB ?kD ?_ ?c2 ?c3 ?c4; (case kA => exact rfl); (case kF => exact rfl); (case kK => assumption); (case k1 => k_asm); (case k2 => k_asm); (case k3 => k_asm); (case k4 => k_asm); (case k5 => k_asm); (case k6 => k_is); (case k7 => k_is); (case k8 => first | (dsimp only [ktrTop]; omega) | ktr_room); (case k9 => first | exact BindsTo.of_eq rfl | exact binds_K (by k_in) rfl (by k_is) rfl rfl rfl); (case kB => exact rfl); (case kD => decide +kernel); (case c2 => exact rfl); (case c3 => exact rfl); (case c4 => exact rfl); k_whole; intro g1 L1 h1 tk1 cells1 FG1 F1 N1 Y1 B1 X1 T1 l1; have lowM := Low.mk l1; (repeat replace lowM := Low.tail lowM); (try k_lt l1); k_cells Y1; (try simp only [List.cons_append, List.nil_append] at N1); (try dsimp only); (try k_lift B1); (try k_fold)  )
  (refine hide_defR (P := LeaveK _ _ _ _ _) ?_; intro K9 hR9; (try dsimp only))
  (refine let_around ?_; intro A9)
  k_with_none
  k_with "exec If" => (with_reducible refine wpAny_If ?_)
  k_with "isTrue Compare" => ((with_reducible show wpAny _ _ (isTrue (Expr.Compare (Expr.Name _ _) [CmpOp.Eq] [Expr.Constant (Const.int _) _ _] _) _ _) _ _ _); k_dflt (refine' test_eq ?F ?v ?_ ?a ?b ?d; (case F => k_asm); (case a => rfl); (case b => rfl); (case d => decide); (case v => rfl)); (try dsimp only))
  k_with "isTrue Compare" => ((with_reducible show wpAny _ _ (isTrue (Expr.Compare (Expr.Name _ _) [CmpOp.NotEq] [Expr.Constant (Const.int _) _ _] _) _ _) _ _ _); k_dflt (refine' test_ne ?F ?v ?_ ?a ?b ?d; (case F => k_asm); (case a => rfl); (case b => rfl); (case d => decide); (case v => rfl)); (try dsimp only))
  k_with "isTrue Compare" => ((with_reducible show wpAny _ _ (isTrue (Expr.Compare (Expr.Name _ _) [CmpOp.Lt] [Expr.Constant (Const.int _) _ _] _) _ _) _ _ _); k_dflt (refine' test_lt ?F ?v ?_ ?a ?b ?d; (case F => k_asm); (case a => rfl); (case b => rfl); (case d => decide); (case v => rfl)); (try dsimp only))
  k_with "isTrue Compare" => ((with_reducible show wpAny _ _ (isTrue (Expr.Compare (Expr.Name _ _) [CmpOp.LtE] [Expr.Constant (Const.int _) _ _] _) _ _) _ _ _); k_dflt (refine' test_le ?F ?v ?_ ?a ?b ?d; (case F => k_asm); (case a => rfl); (case b => rfl); (case d => decide); (case v => rfl)); (try dsimp only))
  k_with "isTrue Compare" => ((with_reducible show wpAny _ _ (isTrue (Expr.Compare (Expr.Name _ _) [CmpOp.GtE] [Expr.Constant (Const.int _) _ _] _) _ _) _ _ _); k_dflt (refine' test_ge ?F ?v ?_ ?a ?b ?d; (case F => k_asm); (case a => rfl); (case b => rfl); (case d => decide); (case v => rfl)); (try dsimp only))
  k_with "Thn" => first | (refine hK9 _ _ ?_; (try clear hK9); (try dsimp only)) | (refine hK9 _ ?_; (try clear hK9); (try dsimp only))
  k_with "Rtn" => (refine hR9 _ _ ?_)
  k_with "Trn" => (refine hN9 _ _ ?_; (try dsimp only))
  k_with "ThB" => refine thb_ite ?_
  k_with "ThB true" => (refine hT9 _ ?_; (try clear hT9 hF9); (try dsimp only [List.cons_append, List.nil_append, List.append_nil]))
  k_with "ThB false" => (refine hF9 _ ?_; (try clear hT9 hF9); (try dsimp only [List.cons_append, List.nil_append, List.append_nil]))
  k_with "execs cons If" => (refine flat_if ?_; intro K9 hT9 hF9)
  k_with "execs cons If" => k_dflt ((first | (refine' if_pb (lit := false) (n := 6) ?F ?c ?_ ?_; (case F => k_asm); (case c => exact rfl)) | (refine' if_p (lit := false) (n := 6) ?F ?c ?_ ?_; (case F => k_asm); (case c => exact rfl))); (all_goals (intro k9 hb9; first | (exfalso; omega) | dsimp only [List.cons_append, List.nil_append, List.append_nil] | skip)))
  k_with "execs cons If" => k_dflt ((first | (refine' if_T (lit := true) (n := 6) ?F ?c ?_; (case F => k_asm); (case c => exact rfl)) | (refine' if_F (lit := true) (n := 6) ?F ?c ?_; (case F => k_asm); (case c => exact rfl))); intro k9; (try dsimp only [List.cons_append, List.nil_append, List.append_nil]))
  k_with "execs cons If" => k_dflt (refine' if_p (lit := true) (n := 6) ?F ?c ?_ ?_; (case F => k_asm); (case c => exact rfl); (all_goals (intro k9 hb9; first | (exfalso; omega) | dsimp only [List.cons_append, List.nil_append, List.append_nil] | skip)))
  k_with "execs cons Assign" => ((fail_if_success (with_reducible show wpAny _ _ (execs (Stmt.Assign _ (Expr.ListComp _ _ _ _) _ :: _) _) _ _ _)); refine' flat_asg ?_ ?s; (case s => exact rfl); intro K9 hK9)
  k_with "execs cons Assign" => k_dflt (refine' asg_ev (n := 6) ?F ?N ?L ?x ?s ?e ?_; (case F => k_asm); (case N => k_asm); (case L => exact rfl); (case x => exact rfl); (case s => exact rfl); (case e => exact rfl); intro t9 k9 h' m9 F' N'; (try dsimp only); (try k_sweep))
  k_with "storeName" => k_dflt (refine' store_ev ?F ?N ?L ?x ?_; (case F => k_asm); (case N => k_asm); (case L => exact rfl); (case x => exact rfl); intro h' k9 m9 F' N'; (try dsimp only); (try k_sweep))
  k_with "execs cons Return" => (refine flat_ret ?_; intro K9 hK9)
  k_with "execs cons Return" => k_dflt (refine' ret_ev (n := 6) ?F ?e ?_; (case F => k_asm); (case e => exact rfl); intro t9 k9; (try dsimp only))
  k_with "execs cons Expr" => (refine' flat_expr ?_ ?i ?s; (case i => exact rfl); (case s => exact rfl); intro K9 hK9)
  k_with "execs cons Raise" => refine flat_raise ?_
  k_with "execs cons Continue" => refine flat_cont ?_
  k_with "spliced" => plain_pass; k_dflt (refine' args_ev (n := 6) ?F ?e ?_; (case F => k_asm); (case e => exact rfl); intro t9 k9; (try dsimp only [vals, List.cons_append, List.nil_append]))
  k_with "eval Call Name" => plain_pass; k_dflt (refine' callN_ev (n := 6) ?F ?X ?T ?f ?v ?w ?g ?e ?_ ?a ?b ?d; (case F => k_asm); (case e => exact rfl); (case b => exact rfl); (case X => k_asm); (case T => k_asm); (case a => exact rfl); (case f => k_is); (case v => boot_fast); (case w => exact rfl); (case g => decide); (case d => decide); intro t9 k9; (try dsimp only [vals]))
  k_with "eval Call Name" => plain_pass; k_dflt (refine' call_ev (n := 6) ?F ?X ?T ?f ?k ?e ?_ ?a ?b ?d; (case F => k_asm); (case e => exact rfl); (case b => exact rfl); (case X => k_asm); (case T => k_asm); (case a => exact rfl); (case f => k_is); (case k => k_is); (case d => decide); intro t9 k9; (try dsimp only [vals]))
  k_with "call ref" => ((with_reducible show wpAny _ _ (call (Value.ref 202) [Value.bytes _ _, Value.int 8 _, Value.int 6 _]) _ _ _); (refine' regB86 _ _ _ _ (by assumption) _ _ _ _ _ _ _ _ _ _ _ _ _ _ _ _ _ _ ?k1 ?k2 ?k3 ?k4 ?k5 ?kK ?kd ?ku ?_; (case k1 => k_asm); (case k2 => k_asm); (case k3 => k_asm); (case k4 => k_asm); (case k5 => k_asm); (case kK => first | exact rfl | assumption); (case kd => first | (dsimp only [Around.deeper]; omega) | ktr_room); (case ku => first | (dsimp only [Around.deeper]; omega) | ktr_units); intro T9 D9 us9 c9 t9 h9 k9 F9 N9 lD9 lT9 ln9 hI9; (have hz9 := IntsAre.length hI9); (rw [regGroups_len] at hz9); (try rw [KBw.ints_length] at hz9); (try dsimp only); (try k_fold)))
  k_with "call ref" => ((show wpAny _ _ (call (Value.ref 197) []) _ _ _); (refine' law_signs _ _ _ _ _ _ _ _ _ _ _ _ _ _ _ _ _ _ ?k1 ?k2 ?k3 ?k4 ?k5 ?kK ?kd ?ku ?_; (case k1 => k_asm); (case k2 => k_asm); (case k3 => k_asm); (case k4 => k_asm); (case k5 => k_asm); (case kK => first | exact rfl | assumption); (case kd => first | (dsimp only [Around.deeper]; omega) | ktr_room); (case ku => first | (dsimp only [Around.deeper]; omega) | ktr_units); intro D9 us9 c9 h9 k9 F9 N9 l9 hI9; (try dsimp only); (try k_fold)))
  k_with "call type:list" => ((with_reducible show wpAny _ _ (call (Value.type "list") [Value.bytes _ _]) _ _ _); (refine' list_bytes ?k1 ?k2 ?k3 ?k4 ?_; (case k1 => k_asm); (case k2 => k_asm); (case k3 => first | exact rfl | assumption); (case k4 => first | decide | omega); intro D9 us9 c9 h9 k9 F9 N9 l9 hI9; (try dsimp only)))
  k_with "call builtin:list.append" => ((with_reducible show wpAny _ _ (call (Value.builtin "list.append") [Value.ref _, Value.int _ _]) _ _ _); (refine' append_L ?k1 ?k2 ?k3 ?k4 ?k5 ?_; (case k1 => k_asm); (case k2 => k_asm); (case k3 => k_upd); (case k4 => assumption); (case k5 => first | omega | ((simp only [List.length_append, List.length_map, regGroups_len, KBw.ints_length, List.length_cons, List.length_nil]); omega)); intro h9 F9 N9 hI9; (try dsimp only)))
  k_with "binaryOp Add ref ref" => ((with_reducible show wpAny _ _ (binaryOp _ (Value.ref _) (Value.ref _)) _ _ _); (refine' kmk_add_ints ?F ?N ?a ?b ?i ?j ?_ ?z; (case F => k_asm); (case N => k_asm); (case a => exact News.isList (by k_asm) (by k_mem)); (case b => exact News.isList (by k_asm) (by k_mem)); (case i => assumption); (case j => assumption); (case z => (simp only [sizeLine_eq, KBw.ints_length, List.length_cons, List.length_nil]; omega))); intro D9 us9 h9 F9 N9 l9 hI9; (try dsimp only))
  k_with "eval ListComp" => (k_here; k_dflt (refine LCg.ListComp_U (F₀ := by k_asm) (by with_unfolding_all rfl) (by decide) (by rfl) (by decide) (by rfl) ?_))
  k_with "exec Assign cons ListComp" => (k_here; k_dflt (refine LCg.Assign_ListComp_U (F₀ := by k_asm) (by rfl) (by with_unfolding_all rfl) (by with_unfolding_all rfl) (by decide) (by rfl) (by decide) (by rfl) (by rfl) (by rfl) ?_))
  k_with "CompSrc" => (k_here; k_dflt (refine LCg.CompSrc.ledger (by rfl) (by k_asm) (by k_asm) (by k_mem) (by rw [sizeLine_eq, List.size_toArray]; (try simp only [List.length_append, List.length_cons, List.length_nil]); omega) ?_; intro g'; (refine' kcf_list _ (by assumption) (fun k' t' I' oI' C' oC' D' m' ys' h' tk' E' hk' hC' hx' F' N' off' ne' hMark' => ?_) ?_); (all_goals (try (simp only [LCg.Off3, and_true] at off'))); kcf_last))
  k_with "subscriptTail" => ((with_reducible show wpAny _ _ (subscriptTail _ _ (Value.ref _) (Value.int _ _)) _ _ _); (refine' sign_item ?k1 ?k2 ?k3 ?k4 ?_ ?k5; (case k1 => exact News.isList (by k_asm) (by k_mem)); (case k2 => assumption); (case k3 => assumption); (case k4 => exact places_in (by assumption)); (case k5 => with_unfolding_all rfl); intro t9; (try dsimp only)))
  k_with "call type:bytes" => refine stop ?_
  k_with "exec While Compare cons nil" => refine stop ?_
  k_with "WhileStep2" => refine stop ?_
  k_with "binaryOp Mod int int" => (refine mod_c ?k1 ?_; (case k1 => decide))
  k_with "call builtin:len" => (refine' len_ints_fit (News.isList (by k_asm) (by k_mem)) (by assumption) ?k1 ?_; (case k1 => omega))
  k_with "execs cons If" => refine stop ?_
  k_steps
  have hpl := places_len (KBw.bInts b)
  rw [KBw.ints_length] at hpl
  have hpl2 : (places (KBw.bInts b)).length ≤ 17 := by omega
  clear hpl
  refine Stop.go (wpAny_execs_cons (PlB.walk (ns := KBw.bInts b) N' F' ?_ ?_))
  ·
    k_with_none
    k_with "exec If" => (with_reducible refine wpAny_If ?_)
    k_with "isTrue Compare" => ((with_reducible show wpAny _ _ (isTrue (Expr.Compare (Expr.Name _ _) [CmpOp.Eq] [Expr.Constant (Const.int _) _ _] _) _ _) _ _ _); k_dflt (refine' test_eq ?F ?v ?_ ?a ?b ?d; (case F => k_asm); (case a => rfl); (case b => rfl); (case d => decide); (case v => rfl)); (try dsimp only))
    k_with "isTrue Compare" => ((with_reducible show wpAny _ _ (isTrue (Expr.Compare (Expr.Name _ _) [CmpOp.NotEq] [Expr.Constant (Const.int _) _ _] _) _ _) _ _ _); k_dflt (refine' test_ne ?F ?v ?_ ?a ?b ?d; (case F => k_asm); (case a => rfl); (case b => rfl); (case d => decide); (case v => rfl)); (try dsimp only))
    k_with "isTrue Compare" => ((with_reducible show wpAny _ _ (isTrue (Expr.Compare (Expr.Name _ _) [CmpOp.Lt] [Expr.Constant (Const.int _) _ _] _) _ _) _ _ _); k_dflt (refine' test_lt ?F ?v ?_ ?a ?b ?d; (case F => k_asm); (case a => rfl); (case b => rfl); (case d => decide); (case v => rfl)); (try dsimp only))
    k_with "isTrue Compare" => ((with_reducible show wpAny _ _ (isTrue (Expr.Compare (Expr.Name _ _) [CmpOp.LtE] [Expr.Constant (Const.int _) _ _] _) _ _) _ _ _); k_dflt (refine' test_le ?F ?v ?_ ?a ?b ?d; (case F => k_asm); (case a => rfl); (case b => rfl); (case d => decide); (case v => rfl)); (try dsimp only))
    k_with "isTrue Compare" => ((with_reducible show wpAny _ _ (isTrue (Expr.Compare (Expr.Name _ _) [CmpOp.GtE] [Expr.Constant (Const.int _) _ _] _) _ _) _ _ _); k_dflt (refine' test_ge ?F ?v ?_ ?a ?b ?d; (case F => k_asm); (case a => rfl); (case b => rfl); (case d => decide); (case v => rfl)); (try dsimp only))
    k_with "Thn" => first | (refine hK9 _ _ ?_; (try clear hK9); (try dsimp only)) | (refine hK9 _ ?_; (try clear hK9); (try dsimp only))
    k_with "Rtn" => (refine hR9 _ _ ?_)
    k_with "Trn" => (refine hN9 _ _ ?_; (try dsimp only))
    k_with "ThB" => refine thb_ite ?_
    k_with "ThB true" => (refine hT9 _ ?_; (try clear hT9 hF9); (try dsimp only [List.cons_append, List.nil_append, List.append_nil]))
    k_with "ThB false" => (refine hF9 _ ?_; (try clear hT9 hF9); (try dsimp only [List.cons_append, List.nil_append, List.append_nil]))
    k_with "execs cons If" => (refine flat_if ?_; intro K9 hT9 hF9)
    k_with "execs cons If" => k_dflt ((first | (refine' if_pb (lit := false) (n := 6) ?F ?c ?_ ?_; (case F => k_asm); (case c => exact rfl)) | (refine' if_p (lit := false) (n := 6) ?F ?c ?_ ?_; (case F => k_asm); (case c => exact rfl))); (all_goals (intro k9 hb9; first | (exfalso; omega) | dsimp only [List.cons_append, List.nil_append, List.append_nil] | skip)))
    k_with "execs cons If" => k_dflt ((first | (refine' if_T (lit := true) (n := 6) ?F ?c ?_; (case F => k_asm); (case c => exact rfl)) | (refine' if_F (lit := true) (n := 6) ?F ?c ?_; (case F => k_asm); (case c => exact rfl))); intro k9; (try dsimp only [List.cons_append, List.nil_append, List.append_nil]))
    k_with "execs cons If" => k_dflt (refine' if_p (lit := true) (n := 6) ?F ?c ?_ ?_; (case F => k_asm); (case c => exact rfl); (all_goals (intro k9 hb9; first | (exfalso; omega) | dsimp only [List.cons_append, List.nil_append, List.append_nil] | skip)))
    k_with "execs cons Assign" => ((fail_if_success (with_reducible show wpAny _ _ (execs (Stmt.Assign _ (Expr.ListComp _ _ _ _) _ :: _) _) _ _ _)); refine' flat_asg ?_ ?s; (case s => exact rfl); intro K9 hK9)
    k_with "execs cons Assign" => k_dflt (refine' asg_ev (n := 6) ?F ?N ?L ?x ?s ?e ?_; (case F => k_asm); (case N => k_asm); (case L => exact rfl); (case x => exact rfl); (case s => exact rfl); (case e => exact rfl); intro t9 k9 h' m9 F' N'; (try dsimp only); (try k_sweep))
    k_with "storeName" => k_dflt (refine' store_ev ?F ?N ?L ?x ?_; (case F => k_asm); (case N => k_asm); (case L => exact rfl); (case x => exact rfl); intro h' k9 m9 F' N'; (try dsimp only); (try k_sweep))
    k_with "execs cons Return" => (refine flat_ret ?_; intro K9 hK9)
    k_with "execs cons Return" => k_dflt (refine' ret_ev (n := 6) ?F ?e ?_; (case F => k_asm); (case e => exact rfl); intro t9 k9; (try dsimp only))
    k_with "execs cons Expr" => (refine' flat_expr ?_ ?i ?s; (case i => exact rfl); (case s => exact rfl); intro K9 hK9)
    k_with "execs cons Raise" => refine flat_raise ?_
    k_with "execs cons Continue" => refine flat_cont ?_
    k_with "spliced" => plain_pass; k_dflt (refine' args_ev (n := 6) ?F ?e ?_; (case F => k_asm); (case e => exact rfl); intro t9 k9; (try dsimp only [vals, List.cons_append, List.nil_append]))
    k_with "eval Call Name" => plain_pass; k_dflt (refine' callN_ev (n := 6) ?F ?X ?T ?f ?v ?w ?g ?e ?_ ?a ?b ?d; (case F => k_asm); (case e => exact rfl); (case b => exact rfl); (case X => k_asm); (case T => k_asm); (case a => exact rfl); (case f => k_is); (case v => boot_fast); (case w => exact rfl); (case g => decide); (case d => decide); intro t9 k9; (try dsimp only [vals]))
    k_with "eval Call Name" => plain_pass; k_dflt (refine' call_ev (n := 6) ?F ?X ?T ?f ?k ?e ?_ ?a ?b ?d; (case F => k_asm); (case e => exact rfl); (case b => exact rfl); (case X => k_asm); (case T => k_asm); (case a => exact rfl); (case f => k_is); (case k => k_is); (case d => decide); intro t9 k9; (try dsimp only [vals]))
    k_with "call ref" => ((with_reducible show wpAny _ _ (call (Value.ref 202) [Value.bytes _ _, Value.int 8 _, Value.int 6 _]) _ _ _); (refine' regB86 _ _ _ _ (by assumption) _ _ _ _ _ _ _ _ _ _ _ _ _ _ _ _ _ _ ?k1 ?k2 ?k3 ?k4 ?k5 ?kK ?kd ?ku ?_; (case k1 => k_asm); (case k2 => k_asm); (case k3 => k_asm); (case k4 => k_asm); (case k5 => k_asm); (case kK => first | exact rfl | assumption); (case kd => first | (dsimp only [Around.deeper]; omega) | ktr_room); (case ku => first | (dsimp only [Around.deeper]; omega) | ktr_units); intro T9 D9 us9 c9 t9 h9 k9 F9 N9 lD9 lT9 ln9 hI9; (have hz9 := IntsAre.length hI9); (rw [regGroups_len] at hz9); (try rw [KBw.ints_length] at hz9); (try dsimp only); (try k_fold)))
    k_with "call ref" => ((show wpAny _ _ (call (Value.ref 197) []) _ _ _); (refine' law_signs _ _ _ _ _ _ _ _ _ _ _ _ _ _ _ _ _ _ ?k1 ?k2 ?k3 ?k4 ?k5 ?kK ?kd ?ku ?_; (case k1 => k_asm); (case k2 => k_asm); (case k3 => k_asm); (case k4 => k_asm); (case k5 => k_asm); (case kK => first | exact rfl | assumption); (case kd => first | (dsimp only [Around.deeper]; omega) | ktr_room); (case ku => first | (dsimp only [Around.deeper]; omega) | ktr_units); intro D9 us9 c9 h9 k9 F9 N9 l9 hI9; (try dsimp only); (try k_fold)))
    k_with "call type:list" => ((with_reducible show wpAny _ _ (call (Value.type "list") [Value.bytes _ _]) _ _ _); (refine' list_bytes ?k1 ?k2 ?k3 ?k4 ?_; (case k1 => k_asm); (case k2 => k_asm); (case k3 => first | exact rfl | assumption); (case k4 => first | decide | omega); intro D9 us9 c9 h9 k9 F9 N9 l9 hI9; (try dsimp only)))
    k_with "call builtin:list.append" => ((with_reducible show wpAny _ _ (call (Value.builtin "list.append") [Value.ref _, Value.int _ _]) _ _ _); (refine' append_L ?k1 ?k2 ?k3 ?k4 ?k5 ?_; (case k1 => k_asm); (case k2 => k_asm); (case k3 => k_upd); (case k4 => assumption); (case k5 => first | omega | ((simp only [List.length_append, List.length_map, regGroups_len, KBw.ints_length, List.length_cons, List.length_nil]); omega)); intro h9 F9 N9 hI9; (try dsimp only)))
    k_with "binaryOp Add ref ref" => ((with_reducible show wpAny _ _ (binaryOp _ (Value.ref _) (Value.ref _)) _ _ _); (refine' kmk_add_ints ?F ?N ?a ?b ?i ?j ?_ ?z; (case F => k_asm); (case N => k_asm); (case a => exact News.isList (by k_asm) (by k_mem)); (case b => exact News.isList (by k_asm) (by k_mem)); (case i => assumption); (case j => assumption); (case z => (simp only [sizeLine_eq, KBw.ints_length, List.length_cons, List.length_nil]; omega))); intro D9 us9 h9 F9 N9 l9 hI9; (try dsimp only))
    k_with "eval ListComp" => (k_here; k_dflt (refine LCg.ListComp_U (F₀ := by k_asm) (by with_unfolding_all rfl) (by decide) (by rfl) (by decide) (by rfl) ?_))
    k_with "exec Assign cons ListComp" => (k_here; k_dflt (refine LCg.Assign_ListComp_U (F₀ := by k_asm) (by rfl) (by with_unfolding_all rfl) (by with_unfolding_all rfl) (by decide) (by rfl) (by decide) (by rfl) (by rfl) (by rfl) ?_))
    k_with "CompSrc" => (k_here; k_dflt (refine LCg.CompSrc.ledger (by rfl) (by k_asm) (by k_asm) (by k_mem) (by rw [sizeLine_eq, List.size_toArray]; (try simp only [List.length_append, List.length_cons, List.length_nil]); omega) ?_; intro g'; (refine' kcf_list _ (by assumption) (fun k' t' I' oI' C' oC' D' m' ys' h' tk' E' hk' hC' hx' F' N' off' ne' hMark' => ?_) ?_); (all_goals (try (simp only [LCg.Off3, and_true] at off'))); kcf_last))
    k_with "subscriptTail" => ((with_reducible show wpAny _ _ (subscriptTail _ _ (Value.ref _) (Value.int _ _)) _ _ _); (refine' sign_item ?k1 ?k2 ?k3 ?k4 ?_ ?k5; (case k1 => exact News.isList (by k_asm) (by k_mem)); (case k2 => assumption); (case k3 => assumption); (case k4 => exact places_in (by assumption)); (case k5 => with_unfolding_all rfl); intro t9; (try dsimp only)))
    k_with "call type:bytes" => refine stop ?_
    k_with "exec While Compare cons nil" => refine stop ?_
    k_with "WhileStep2" => refine stop ?_
    k_with "binaryOp Mod int int" => (refine mod_c ?k1 ?_; (case k1 => decide))
    k_with "call builtin:len" => (refine' len_ints_fit (News.isList (by k_asm) (by k_mem)) (by assumption) ?k1 ?_; (case k1 => omega))
    k_with "PlB" => refine stop ?_
    k_steps
    all_goals first
      | exact Stop.go (PlB.more (by assumption) (by assumption) (by k_asm) (by k_asm))
      | exact Stop.go (PlB.even (by assumption) (by assumption) (by k_asm) (by k_asm))
  clear hI9 hz9 N' F'
  intro us2 n2 h2 tk2 hI2 F2 N2
  dsimp only
  k_with_none
  k_with "exec If" => (with_reducible refine wpAny_If ?_)
  k_with "isTrue Compare" => ((with_reducible show wpAny _ _ (isTrue (Expr.Compare (Expr.Name _ _) [CmpOp.Eq] [Expr.Constant (Const.int _) _ _] _) _ _) _ _ _); k_dflt (refine' test_eq ?F ?v ?_ ?a ?b ?d; (case F => k_asm); (case a => rfl); (case b => rfl); (case d => decide); (case v => rfl)); (try dsimp only))
  k_with "isTrue Compare" => ((with_reducible show wpAny _ _ (isTrue (Expr.Compare (Expr.Name _ _) [CmpOp.NotEq] [Expr.Constant (Const.int _) _ _] _) _ _) _ _ _); k_dflt (refine' test_ne ?F ?v ?_ ?a ?b ?d; (case F => k_asm); (case a => rfl); (case b => rfl); (case d => decide); (case v => rfl)); (try dsimp only))
  k_with "isTrue Compare" => ((with_reducible show wpAny _ _ (isTrue (Expr.Compare (Expr.Name _ _) [CmpOp.Lt] [Expr.Constant (Const.int _) _ _] _) _ _) _ _ _); k_dflt (refine' test_lt ?F ?v ?_ ?a ?b ?d; (case F => k_asm); (case a => rfl); (case b => rfl); (case d => decide); (case v => rfl)); (try dsimp only))
  k_with "isTrue Compare" => ((with_reducible show wpAny _ _ (isTrue (Expr.Compare (Expr.Name _ _) [CmpOp.LtE] [Expr.Constant (Const.int _) _ _] _) _ _) _ _ _); k_dflt (refine' test_le ?F ?v ?_ ?a ?b ?d; (case F => k_asm); (case a => rfl); (case b => rfl); (case d => decide); (case v => rfl)); (try dsimp only))
  k_with "isTrue Compare" => ((with_reducible show wpAny _ _ (isTrue (Expr.Compare (Expr.Name _ _) [CmpOp.GtE] [Expr.Constant (Const.int _) _ _] _) _ _) _ _ _); k_dflt (refine' test_ge ?F ?v ?_ ?a ?b ?d; (case F => k_asm); (case a => rfl); (case b => rfl); (case d => decide); (case v => rfl)); (try dsimp only))
  k_with "Thn" => first | (refine hK9 _ _ ?_; (try clear hK9); (try dsimp only)) | (refine hK9 _ ?_; (try clear hK9); (try dsimp only))
  k_with "Rtn" => (refine hR9 _ _ ?_)
  k_with "Trn" => (refine hN9 _ _ ?_; (try dsimp only))
  k_with "ThB" => refine thb_ite ?_
  k_with "ThB true" => (refine hT9 _ ?_; (try clear hT9 hF9); (try dsimp only [List.cons_append, List.nil_append, List.append_nil]))
  k_with "ThB false" => (refine hF9 _ ?_; (try clear hT9 hF9); (try dsimp only [List.cons_append, List.nil_append, List.append_nil]))
  k_with "execs cons If" => (refine flat_if ?_; intro K9 hT9 hF9)
  k_with "execs cons If" => k_dflt ((first | (refine' if_pb (lit := false) (n := 6) ?F ?c ?_ ?_; (case F => k_asm); (case c => exact rfl)) | (refine' if_p (lit := false) (n := 6) ?F ?c ?_ ?_; (case F => k_asm); (case c => exact rfl))); (all_goals (intro k9 hb9; first | (exfalso; omega) | dsimp only [List.cons_append, List.nil_append, List.append_nil] | skip)))
  k_with "execs cons If" => k_dflt ((first | (refine' if_T (lit := true) (n := 6) ?F ?c ?_; (case F => k_asm); (case c => exact rfl)) | (refine' if_F (lit := true) (n := 6) ?F ?c ?_; (case F => k_asm); (case c => exact rfl))); intro k9; (try dsimp only [List.cons_append, List.nil_append, List.append_nil]))
  k_with "execs cons If" => k_dflt (refine' if_p (lit := true) (n := 6) ?F ?c ?_ ?_; (case F => k_asm); (case c => exact rfl); (all_goals (intro k9 hb9; first | (exfalso; omega) | dsimp only [List.cons_append, List.nil_append, List.append_nil] | skip)))
  k_with "execs cons Assign" => ((fail_if_success (with_reducible show wpAny _ _ (execs (Stmt.Assign _ (Expr.ListComp _ _ _ _) _ :: _) _) _ _ _)); refine' flat_asg ?_ ?s; (case s => exact rfl); intro K9 hK9)
  k_with "execs cons Assign" => k_dflt (refine' asg_ev (n := 6) ?F ?N ?L ?x ?s ?e ?_; (case F => k_asm); (case N => k_asm); (case L => exact rfl); (case x => exact rfl); (case s => exact rfl); (case e => exact rfl); intro t9 k9 h' m9 F' N'; (try dsimp only); (try k_sweep))
  k_with "storeName" => k_dflt (refine' store_ev ?F ?N ?L ?x ?_; (case F => k_asm); (case N => k_asm); (case L => exact rfl); (case x => exact rfl); intro h' k9 m9 F' N'; (try dsimp only); (try k_sweep))
  k_with "execs cons Return" => (refine flat_ret ?_; intro K9 hK9)
  k_with "execs cons Return" => k_dflt (refine' ret_ev (n := 6) ?F ?e ?_; (case F => k_asm); (case e => exact rfl); intro t9 k9; (try dsimp only))
  k_with "execs cons Expr" => (refine' flat_expr ?_ ?i ?s; (case i => exact rfl); (case s => exact rfl); intro K9 hK9)
  k_with "execs cons Raise" => refine flat_raise ?_
  k_with "execs cons Continue" => refine flat_cont ?_
  k_with "spliced" => plain_pass; k_dflt (refine' args_ev (n := 6) ?F ?e ?_; (case F => k_asm); (case e => exact rfl); intro t9 k9; (try dsimp only [vals, List.cons_append, List.nil_append]))
  k_with "eval Call Name" => plain_pass; k_dflt (refine' callN_ev (n := 6) ?F ?X ?T ?f ?v ?w ?g ?e ?_ ?a ?b ?d; (case F => k_asm); (case e => exact rfl); (case b => exact rfl); (case X => k_asm); (case T => k_asm); (case a => exact rfl); (case f => k_is); (case v => boot_fast); (case w => exact rfl); (case g => decide); (case d => decide); intro t9 k9; (try dsimp only [vals]))
  k_with "eval Call Name" => plain_pass; k_dflt (refine' call_ev (n := 6) ?F ?X ?T ?f ?k ?e ?_ ?a ?b ?d; (case F => k_asm); (case e => exact rfl); (case b => exact rfl); (case X => k_asm); (case T => k_asm); (case a => exact rfl); (case f => k_is); (case k => k_is); (case d => decide); intro t9 k9; (try dsimp only [vals]))
  k_with "call ref" => ((with_reducible show wpAny _ _ (call (Value.ref 202) [Value.bytes _ _, Value.int 8 _, Value.int 6 _]) _ _ _); (refine' regB86 _ _ _ _ (by assumption) _ _ _ _ _ _ _ _ _ _ _ _ _ _ _ _ _ _ ?k1 ?k2 ?k3 ?k4 ?k5 ?kK ?kd ?ku ?_; (case k1 => k_asm); (case k2 => k_asm); (case k3 => k_asm); (case k4 => k_asm); (case k5 => k_asm); (case kK => first | exact rfl | assumption); (case kd => first | (dsimp only [Around.deeper]; omega) | ktr_room); (case ku => first | (dsimp only [Around.deeper]; omega) | ktr_units); intro T9 D9 us9 c9 t9 h9 k9 F9 N9 lD9 lT9 ln9 hI9; (have hz9 := IntsAre.length hI9); (rw [regGroups_len] at hz9); (try rw [KBw.ints_length] at hz9); (try dsimp only); (try k_fold)))
  k_with "call ref" => ((show wpAny _ _ (call (Value.ref 197) []) _ _ _); (refine' law_signs _ _ _ _ _ _ _ _ _ _ _ _ _ _ _ _ _ _ ?k1 ?k2 ?k3 ?k4 ?k5 ?kK ?kd ?ku ?_; (case k1 => k_asm); (case k2 => k_asm); (case k3 => k_asm); (case k4 => k_asm); (case k5 => k_asm); (case kK => first | exact rfl | assumption); (case kd => first | (dsimp only [Around.deeper]; omega) | ktr_room); (case ku => first | (dsimp only [Around.deeper]; omega) | ktr_units); intro D9 us9 c9 h9 k9 F9 N9 l9 hI9; (try dsimp only); (try k_fold)))
  k_with "call type:list" => ((with_reducible show wpAny _ _ (call (Value.type "list") [Value.bytes _ _]) _ _ _); (refine' list_bytes ?k1 ?k2 ?k3 ?k4 ?_; (case k1 => k_asm); (case k2 => k_asm); (case k3 => first | exact rfl | assumption); (case k4 => first | decide | omega); intro D9 us9 c9 h9 k9 F9 N9 l9 hI9; (try dsimp only)))
  k_with "call builtin:list.append" => ((with_reducible show wpAny _ _ (call (Value.builtin "list.append") [Value.ref _, Value.int _ _]) _ _ _); (refine' append_L ?k1 ?k2 ?k3 ?k4 ?k5 ?_; (case k1 => k_asm); (case k2 => k_asm); (case k3 => k_upd); (case k4 => assumption); (case k5 => first | omega | ((simp only [List.length_append, List.length_map, regGroups_len, KBw.ints_length, List.length_cons, List.length_nil]); omega)); intro h9 F9 N9 hI9; (try dsimp only)))
  k_with "binaryOp Add ref ref" => ((with_reducible show wpAny _ _ (binaryOp _ (Value.ref _) (Value.ref _)) _ _ _); (refine' kmk_add_ints ?F ?N ?a ?b ?i ?j ?_ ?z; (case F => k_asm); (case N => k_asm); (case a => exact News.isList (by k_asm) (by k_mem)); (case b => exact News.isList (by k_asm) (by k_mem)); (case i => assumption); (case j => assumption); (case z => (simp only [sizeLine_eq, KBw.ints_length, List.length_cons, List.length_nil]; omega))); intro D9 us9 h9 F9 N9 l9 hI9; (try dsimp only))
  k_with "eval ListComp" => (k_here; k_dflt (refine LCg.ListComp_U (F₀ := by k_asm) (by with_unfolding_all rfl) (by decide) (by rfl) (by decide) (by rfl) ?_))
  k_with "exec Assign cons ListComp" => (k_here; k_dflt (refine LCg.Assign_ListComp_U (F₀ := by k_asm) (by rfl) (by with_unfolding_all rfl) (by with_unfolding_all rfl) (by decide) (by rfl) (by decide) (by rfl) (by rfl) (by rfl) ?_))
  k_with "CompSrc" => (k_here; k_dflt (refine LCg.CompSrc.ledger (by rfl) (by k_asm) (by k_asm) (by k_mem) (by rw [sizeLine_eq, List.size_toArray]; (try simp only [List.length_append, List.length_cons, List.length_nil]); omega) ?_; intro g'; (refine' kcf_list _ (by assumption) (fun k' t' I' oI' C' oC' D' m' ys' h' tk' E' hk' hC' hx' F' N' off' ne' hMark' => ?_) ?_); (all_goals (try (simp only [LCg.Off3, and_true] at off'))); kcf_last))
  k_with "subscriptTail" => ((with_reducible show wpAny _ _ (subscriptTail _ _ (Value.ref _) (Value.int _ _)) _ _ _); (refine' sign_item ?k1 ?k2 ?k3 ?k4 ?_ ?k5; (case k1 => exact News.isList (by k_asm) (by k_mem)); (case k2 => assumption); (case k3 => assumption); (case k4 => exact places_in (by assumption)); (case k5 => with_unfolding_all rfl); intro t9; (try dsimp only)))
  k_with "call type:bytes" => refine stop ?_
  k_with "exec While Compare cons nil" => refine stop ?_
  k_with "WhileStep2" => refine stop ?_
  k_with "binaryOp Mod int int" => (refine mod_c ?k1 ?_; (case k1 => decide))
  k_with "call builtin:len" => (refine' len_ints_fit (News.isList (by k_asm) (by k_mem)) (by assumption) ?k1 ?_; (case k1 => omega))
  k_steps
  refine Stop.go (whileList [Str.ofString "text"] (PadP _) (fun out => 100 - out.length) (by k_asm) (by k_asm) (by assumption) (kv := [_]) (by rfl) (PadP.start _) ?_ (by passes_own))
  intro u out vs nn h tk hI hP F1 N1
  have hl := hP.len
  rw [List.length_map] at hl
  have hl2 : out.length ≤ 50 := by omega
  simp only [ov] at F1
  try k_fold
  k_steps
  · refine Stop.go (whileListEnd (by k_asm) (by k_asm) (by assumption) (by rfl) (hP.next (by simp_all; omega)) (by rw [List.length_append]; show 100 - (out.length + 1) < _; omega))
  · refine Stop.go (bytes_ofL (by k_asm) (by k_asm) (.head _) rfl (by assumption) (ns := out) ?_ (by omega) ?_)
    · exact hP.all (map_in fun k _ => signAt_in)
    · intro h8 t8 k8 F8 N8
      k_steps
      exact retV _ hret (by k_asm) (by k_asm) (fun p hp => .tail _ (.tail _ (.tail _ (.tail _ (.tail _ (.tail _ (.tail _ hp))))))) (by rw [hP.done (by simp_all; omega)]; rfl)
end
end

theorem reset26 : True := by
  w_top off
  k_with_none
  trivial
section
/-- False, or a row -/
def resV (r : Option (List Int)) (t : Tok) : Value := match r with | none => .bool false | some l => .bytes (byteArr l) t
def fig16 (fold : Bool) (x : Int) : Option Int := if 48 ≤ x ∧ x ≤ 57 then some (x - 48) else if 65 ≤ x ∧ x ≤ 70 then some (x - 55) else if fold = true ∧ 97 ≤ x ∧ x ≤ 102 then some (x - 87) else none
def figs16 (fold : Bool) (ns : List Int) : Option (List Int) := ns.foldl (fun o x => o.bind fun l => (fig16 fold x).map fun y => l ++ [y]) (some [])
def from16 (fold : Bool) (ns : List Int) : Option (List Int) := (figs16 fold ns).bind fun l => if regMore 4 8 l = true then none else some (regGroups 4 8 l)
theorem figs16_snoc (fold : Bool) (pre : List Int) (n : Int) : figs16 fold (pre ++ [n]) = (figs16 fold pre).bind fun l => (fig16 fold n).map fun y => l ++ [y] := by simp [figs16]
theorem figs16_none (fold : Bool) (l : List Int) : l.foldl (fun o x => o.bind fun l => (fig16 fold x).map fun y => l ++ [y]) (none : Option (List Int)) = none := by
  induction l with
  | nil => rfl
  | cons n l ih => exact ih
theorem figs16_cut {fold : Bool} {pre post ns out : List Int} {n : Int} (h : ns = pre ++ n :: post) (hp : figs16 fold pre = some out) (hn : fig16 fold n = none) : from16 fold ns = none := by
  have h1 : figs16 fold (pre ++ [n]) = none := by rw [figs16_snoc, hp, Option.bind_some, hn]; rfl
  have h2 : figs16 fold ns = none := by
    rw [h, show pre ++ n :: post = (pre ++ [n]) ++ post from by simp]
    unfold figs16 at *
    rw [List.foldl_append, h1, figs16_none]
  unfold from16
  rw [h2]
  rfl
theorem figs16_step {fold : Bool} {pre out : List Int} {n y : Int} (hp : figs16 fold pre = some out) (hn : fig16 fold n = some y) : figs16 fold (pre ++ [n]) = some (out ++ [y]) := by
  rw [figs16_snoc, hp, Option.bind_some, hn]
  rfl
theorem figs16_len {fold : Bool} {l out : List Int} (h : figs16 fold l = some out) : out.length = l.length := by
  suffices H : ∀ (l a out : List Int), l.foldl (fun o x => o.bind fun l => (fig16 fold x).map fun y => l ++ [y]) (some a) = some out → out.length = a.length + l.length by
    have := H l [] out h
    simpa using this
  intro l
  induction l with
  | nil => intro a out h; cases h; rfl
  | cons n l ih =>
    intro a out h
    rw [List.foldl_cons, Option.bind_some] at h
    cases e : fig16 fold n with
    | none => rw [e, Option.map_none, figs16_none] at h; cases h
    | some y =>
      rw [e, Option.map_some] at h
      have := ih _ _ h
      rw [this, List.length_append, List.length_singleton, List.length_cons]
      omega
theorem outEndL {h₀ : Heap} {lo L : Addr} {news own : List (Addr × Obj)} {ys ks : List Str} {kv : List Value} {P : List Int → List Int → List Int → Prop} {pre : List Int} {m' : Str → Option Value} {us : List Value} {nn : Nat} {s₁ : Shared} {h' : Heap} {tk : Nat}
    (as : List (Int × Tok)) {out : List Int} (F : Fr h₀ L h' m') (N : News h₀ L h' ((lo, listOf (List.toArray us) nn) :: (news ++ own))) (hi : IntsAre us out) (hy : ys.map m' = (as.map iv).map some) (hk : ks.map m' = kv.map some) (hp : P pre out (as.map (·.1))) :
    InvEndN h₀ L (OutJ lo news ys ks kv P pre) own (lo :: news.map (·.1)) s₁ { s₁ with heap := h', toks := tk } :=
  outEnd as F N (show IntsAre us.toArray.toList out from hi) hy hk hp
theorem from16_done {fold : Bool} {ns out : List Int} (h : figs16 fold ns = some out) (e : regMore 4 8 out = false) : from16 fold ns = some (regGroups 4 8 out) := by
  unfold from16
  rw [h, Option.bind_some, if_neg (by rw [e]; decide)]
theorem from16_more {fold : Bool} {ns out : List Int} (h : figs16 fold ns = some out) (e : regMore 4 8 out = true) : from16 fold ns = none := by
  unfold from16
  rw [h, Option.bind_some, if_pos e]
section
variable {prog : Program} {w : World} {p : Program} {loose : List Str} {mean : ExcName → Option Value} {mg mb : Str → Option Value}
theorem law_from16 (b : Array UInt8) (tb : Tok) (fold : Bool) (hb : b.size ≤ 12) : Claim prog w p loose mean mg mb 219 2 [.bytes b tb, .bool fold] (resV (from16 fold (KBw.bInts b))) := by
  dsimp only [Claim, RetV]
  intros
  rename_i hret
  refine wpAny_call ?_
  (refine' code_def ?k1 ?k2 ?k3 ?k4 ?k5 ?kA ?kF ?kK ?k6 ?k7 ?k8 ?k9 ?kB ?_ ?c2 ?c3 ?c4 ?c5; (case kA => exact rfl); (case kF => exact rfl); (case kK => assumption); (case k1 => k_asm); (case k2 => k_asm); (case k3 => k_asm); (case k4 => k_asm); (case k5 => k_asm); (case k6 => k_is); (case k7 => k_is); (case k8 => first | (dsimp only [ktrTop]; omega) | ktr_room); (case k9 => first | exact BindsTo.of_eq rfl | exact binds_K (by k_in) rfl (by k_is) rfl rfl rfl); (case c5 => decide); (case kB => exact locs rfl); (case c2 => exact rfl); (case c3 => exact rfl); (case c4 => exact rfl); k_whole; intro g1 L1 h1 FG1 F1 N1 B1 X1 T1; (try dsimp only); (try k_lift B1); (try k_fold))
  (refine hide_defR (P := LeaveK _ _ _ _ _) ?_; intro K9 hR9; (try dsimp only))
  (refine let_around ?_; intro A9)
  k_with_none
  k_with "exec If" => (with_reducible refine wpAny_If ?_)
  k_with "isTrue Compare" => ((with_reducible show wpAny _ _ (isTrue (Expr.Compare (Expr.Name _ _) [CmpOp.Eq] [Expr.Constant (Const.int _) _ _] _) _ _) _ _ _); k_dflt (refine' test_eq ?F ?v ?_ ?a ?b ?d; (case F => k_asm); (case a => rfl); (case b => rfl); (case d => decide); (case v => rfl)); (try dsimp only))
  k_with "isTrue Compare" => ((with_reducible show wpAny _ _ (isTrue (Expr.Compare (Expr.Name _ _) [CmpOp.NotEq] [Expr.Constant (Const.int _) _ _] _) _ _) _ _ _); k_dflt (refine' test_ne ?F ?v ?_ ?a ?b ?d; (case F => k_asm); (case a => rfl); (case b => rfl); (case d => decide); (case v => rfl)); (try dsimp only))
  k_with "isTrue Compare" => ((with_reducible show wpAny _ _ (isTrue (Expr.Compare (Expr.Name _ _) [CmpOp.Lt] [Expr.Constant (Const.int _) _ _] _) _ _) _ _ _); k_dflt (refine' test_lt ?F ?v ?_ ?a ?b ?d; (case F => k_asm); (case a => rfl); (case b => rfl); (case d => decide); (case v => rfl)); (try dsimp only))
  k_with "isTrue Compare" => ((with_reducible show wpAny _ _ (isTrue (Expr.Compare (Expr.Name _ _) [CmpOp.LtE] [Expr.Constant (Const.int _) _ _] _) _ _) _ _ _); k_dflt (refine' test_le ?F ?v ?_ ?a ?b ?d; (case F => k_asm); (case a => rfl); (case b => rfl); (case d => decide); (case v => rfl)); (try dsimp only))
  k_with "isTrue Compare" => ((with_reducible show wpAny _ _ (isTrue (Expr.Compare (Expr.Name _ _) [CmpOp.GtE] [Expr.Constant (Const.int _) _ _] _) _ _) _ _ _); k_dflt (refine' test_ge ?F ?v ?_ ?a ?b ?d; (case F => k_asm); (case a => rfl); (case b => rfl); (case d => decide); (case v => rfl)); (try dsimp only))
  k_with "Thn" => first | (refine hK9 _ _ ?_; (try clear hK9); (try dsimp only)) | (refine hK9 _ ?_; (try clear hK9); (try dsimp only))
  k_with "Rtn" => (refine hR9 _ _ ?_)
  k_with "Trn" => (refine hN9 _ _ ?_; (try dsimp only))
  k_with "ThB" => refine thb_ite ?_
  k_with "ThB true" => (refine hT9 _ ?_; (try clear hT9 hF9); (try dsimp only [List.cons_append, List.nil_append, List.append_nil]))
  k_with "ThB false" => (refine hF9 _ ?_; (try clear hT9 hF9); (try dsimp only [List.cons_append, List.nil_append, List.append_nil]))
  k_with "execs cons If" => (refine flat_if ?_; intro K9 hT9 hF9)
  k_with "execs cons If" => k_dflt ((first | (refine' if_pb (lit := false) (n := 6) ?F ?c ?_ ?_; (case F => k_asm); (case c => exact rfl)) | (refine' if_p (lit := false) (n := 6) ?F ?c ?_ ?_; (case F => k_asm); (case c => exact rfl))); (all_goals (intro k9 hb9; first | (exfalso; omega) | dsimp only [List.cons_append, List.nil_append, List.append_nil] | skip)))
  k_with "execs cons If" => k_dflt ((first | (refine' if_T (lit := true) (n := 6) ?F ?c ?_; (case F => k_asm); (case c => exact rfl)) | (refine' if_F (lit := true) (n := 6) ?F ?c ?_; (case F => k_asm); (case c => exact rfl))); intro k9; (try dsimp only [List.cons_append, List.nil_append, List.append_nil]))
  k_with "execs cons If" => k_dflt (refine' if_p (lit := true) (n := 6) ?F ?c ?_ ?_; (case F => k_asm); (case c => exact rfl); (all_goals (intro k9 hb9; first | (exfalso; omega) | dsimp only [List.cons_append, List.nil_append, List.append_nil] | skip)))
  k_with "execs cons Assign" => ((fail_if_success (with_reducible show wpAny _ _ (execs (Stmt.Assign _ (Expr.ListComp _ _ _ _) _ :: _) _) _ _ _)); refine' flat_asg ?_ ?s; (case s => exact rfl); intro K9 hK9)
  k_with "execs cons Assign" => k_dflt (refine' asg_ev (n := 6) ?F ?N ?L ?x ?s ?e ?_; (case F => k_asm); (case N => k_asm); (case L => exact rfl); (case x => exact rfl); (case s => exact rfl); (case e => exact rfl); intro t9 k9 h' m9 F' N'; (try dsimp only); (try k_sweep))
  k_with "storeName" => k_dflt (refine' store_ev ?F ?N ?L ?x ?_; (case F => k_asm); (case N => k_asm); (case L => exact rfl); (case x => exact rfl); intro h' k9 m9 F' N'; (try dsimp only); (try k_sweep))
  k_with "execs cons Return" => (refine flat_ret ?_; intro K9 hK9)
  k_with "execs cons Return" => k_dflt (refine' ret_ev (n := 6) ?F ?e ?_; (case F => k_asm); (case e => exact rfl); intro t9 k9; (try dsimp only))
  k_with "execs cons Expr" => (refine' flat_expr ?_ ?i ?s; (case i => exact rfl); (case s => exact rfl); intro K9 hK9)
  k_with "execs cons Raise" => refine flat_raise ?_
  k_with "execs cons Continue" => refine flat_cont ?_
  k_with "spliced" => plain_pass; k_dflt (refine' args_ev (n := 6) ?F ?e ?_; (case F => k_asm); (case e => exact rfl); intro t9 k9; (try dsimp only [vals, List.cons_append, List.nil_append]))
  k_with "eval Call Name" => plain_pass; k_dflt (refine' callN_ev (n := 6) ?F ?X ?T ?f ?v ?w ?g ?e ?_ ?a ?b ?d; (case F => k_asm); (case e => exact rfl); (case b => exact rfl); (case X => k_asm); (case T => k_asm); (case a => exact rfl); (case f => k_is); (case v => boot_fast); (case w => exact rfl); (case g => decide); (case d => decide); intro t9 k9; (try dsimp only [vals]))
  k_with "eval Call Name" => plain_pass; k_dflt (refine' call_ev (n := 6) ?F ?X ?T ?f ?k ?e ?_ ?a ?b ?d; (case F => k_asm); (case e => exact rfl); (case b => exact rfl); (case X => k_asm); (case T => k_asm); (case a => exact rfl); (case f => k_is); (case k => k_is); (case d => decide); intro t9 k9; (try dsimp only [vals]))
  k_with "call ref" => ((with_reducible show wpAny _ _ (call (Value.ref 202) [Value.ref _, Value.int 4 _, Value.int 8 _]) _ _ _); (refine' regL48 _ _ _ _ _ _ ?hw ?hb _ _ _ _ _ _ _ _ _ _ _ _ _ _ _ _ _ _ ?k1 ?k2 ?k3 ?k4 ?km ?k5 ?kK ?kd ?ku ?_; (case k1 => k_asm); (case k2 => k_asm); (case k3 => k_asm); (case k4 => k_asm); (case km => first | exact List.Mem.head _ | k_mem | assumption); (case hw => assumption); (case hb => omega); (case k5 => k_asm); (case kK => first | exact rfl | assumption); (case kd => first | (dsimp only [Around.deeper]; omega) | ktr_room); (case ku => first | (dsimp only [Around.deeper]; omega) | ktr_units); intro T9 D9 us9 c9 t9 h9 k9 F9 N9 lD9 lT9 ln9 hI9; (have hz9 := IntsAre.length hI9); (rw [regGroups_len] at hz9); (try rw [KBw.ints_length] at hz9); (try dsimp only); (try k_fold)))
  k_with "call builtin:list.append" => ((with_reducible show wpAny _ _ (call (Value.builtin "list.append") [Value.ref _, Value.int _ _]) _ _ _); (refine' append_L ?k1 ?k2 ?k3 ?k4 ?k5 ?_; (case k1 => k_asm); (case k2 => k_asm); (case k3 => k_upd); (case k4 => assumption); (case k5 => first | omega | ((simp only [List.length_append, List.length_map, regGroups_len, KBw.ints_length, List.length_cons, List.length_nil]); omega)); intro h9 F9 N9 hI9; (try dsimp only)))
  k_with "call type:bytes" => refine stop ?_
  k_with "InvEndN" => refine stop ?_
  k_with "pyIter bytes" => refine stop ?_
  k_steps
  refine Stop.go ?_
  refine bytesFor [] [Str.ofString "figures", Str.ofString "fold"] (fun pre out _ => figs16 fold pre = some out) rfl (by k_asm) (by k_asm) (by assumption) IntsAre.nil (as₀ := []) (by rfl) (kv := [_, _]) (by rfl) rfl ?_ ?_
  · intro pre post n t u as out vs nn h tk own hbs hn0 hn1 hlen hoff hI hP F1 N1
    have hpl : pre.length < 12 := by
      have h1 := congrArg List.length hbs
      rw [KBw.ints_length, List.length_append, List.length_cons] at h1
      omega
    have hol := figs16_len hP
    obtain rfl : as = [] := List.length_eq_zero_iff.mp hlen
    simp only [ov, List.map, iv] at F1
    try k_fold
    refine hide_turn ?_; intro T9 hN9
    k_steps
    all_goals first
      | (refine Stop.go (outEndL [] (by k_asm) (by k_asm) (by assumption) (by rfl) (by rfl) (figs16_step hP ?_)); unfold fig16; (repeat' split) <;> first | rfl | (exfalso; omega) | (exfalso; simp_all; done) | (exfalso; simp_all; omega))
      | (exact retV 0 hret (by k_asm) (by k_asm) (fun p hp => .tail _ (List.mem_append_left _ hp)) (by rw [figs16_cut hbs hP (by unfold fig16; (repeat' split) <;> first | rfl | (exfalso; omega) | (exfalso; simp_all; done) | (exfalso; simp_all; omega))]; rfl))
  · intro u as out vs nn h tk hlen hI hP F1 N1
    have hol := figs16_len hP
    rw [KBw.ints_length] at hol
    obtain rfl : as = [] := List.length_eq_zero_iff.mp hlen
    simp only [ov, List.map, iv] at F1
    try k_fold
    k_steps
    · exact retV 0 hret (by k_asm) (by k_asm) (fun p hp => .tail _ (.tail _ (.tail _ hp))) (by rw [from16_more hP (by assumption)]; rfl)
    · refine Stop.go (bytes_ofL (by k_asm) (by k_asm) (.tail _ (.head _)) rfl (by assumption) (fun v hv => groups_in hv) (by rw [regGroups_len]; omega) ?_)
      intro h8 t8 k8 F8 N8
      k_steps
      exact retV _ hret (by k_asm) (by k_asm) (fun p hp => .tail _ (.tail _ (.tail _ hp))) (by rw [from16_done hP (by assumption)]; rfl)
end
end

theorem reset27 : True := by
  w_top off
  k_with_none
  trivial
section
def LstJ (before after : List (Addr × Obj)) (lo : Addr) (ks : List Str) (kv : List Value) (P : List Int → Prop) (out : List Int) (m : Str → Option Value) (nx : List (Addr × Obj)) : Prop :=
  ∃ (us : List Value) (nn : Nat), nx = before ++ (lo, listOf (List.toArray us) nn) :: after ∧ IntsAre us out ∧ ks.map m = kv.map some ∧ P out
section
variable {prog : Program} {w : World} {A : Around} {E : Value → Shared → Prop} {s : Shared} {env : Env} {h₀ : Heap} {x : Str} {body : List Stmt} {Q : Flow → Shared → Prop}
theorem rangeL {r : Addr} {n : Nat} {a₀ b₀ : Int} {t₀ u₀ v₀ : Tok} {m₀ : Str → Option Value} {before after : List (Addr × Obj)} {lo : Addr} {us₀ : List Value} {n₀ : Nat} {out₀ : List Int} {kv : List Value}
    (ks : List Str) (P : List Int → Prop) (g : List Int → Int → List Int)
    (hh : A.handled = none) (hr : IsRange s.heap r a₀ b₀ 1 t₀ u₀ v₀) (hsmall : Builtin.Range.small a₀ b₀ 1 = true) (hn : Builtin.Range.rangeSize a₀ b₀ 1 = (n : Int))
    (F : Fr h₀ env.locals s.heap m₀) (N : News h₀ env.locals s.heap (before ++ (lo, listOf (List.toArray us₀) n₀) :: after)) (hafter : ∀ p ∈ after, p.1 ≠ lo)
    (hi : IntsAre us₀ out₀) (hk : ks.map m₀ = kv.map some) (hp : P out₀)
    (turn : ∀ (k : Int) (t : Tok) (u : Str → Option Value) (out : List Int) (us : List Value) (nn : Nat) (h : Heap) (tk : Nat) (own : List (Addr × Obj)), a₀ ≤ k → k < a₀ + (n : Int) → (∀ p ∈ after ++ own, p.1 ≠ lo) → IntsAre us out → P out →
      Fr h₀ env.locals h (fun y => if y = x then some (.int k t) else ov ks kv u y) → News h₀ env.locals h (before ++ (lo, listOf (List.toArray us) nn) :: (after ++ own)) →
      wpAny (model prog w) A (execs body env) (InvPostN h₀ env.locals (LstJ before after lo ks kv P (g out k)) own ((before ++ (lo, listOf (List.toArray us₀) n₀) :: after).map (·.1)) { s with heap := h, toks := tk } Q) E { s with heap := h, toks := tk })
    (done : ∀ (u : Str → Option Value) (us : List Value) (nn : Nat) (h : Heap) (tk : Nat), IntsAre us ((rangeKs a₀ n).foldl g out₀) → P ((rangeKs a₀ n).foldl g out₀) →
      Fr h₀ env.locals h (ov ks kv u) → News h₀ env.locals h (before ++ (lo, listOf (List.toArray us) nn) :: after) → Q .next { s with heap := h, toks := tk }) :
    wpAny (model prog w) A (pyIter (.ref r)) (fun it s₂ => LoopAtV prog w A h₀ env x body Q E it s₂) E s := by
  refine iter_rangeS (LstJ before after lo ks kv P) g out₀ hh hr hsmall hn F N ⟨us₀, n₀, rfl, hi, hk, hp⟩ ?_ ?_
  · rintro k t out m₁ nx h tk own hkm hoff ⟨us, nn, rfl, hI, hk', hp'⟩ F₁ N₁
    rw [List.append_assoc, List.cons_append] at N₁
    refine turn k t m₁ out us nn h tk own (mem_rangeKs hkm).1 (mem_rangeKs hkm).2 ?_ hI hp' (by rw [ov_eq hk']; exact F₁) N₁
    intro p hp
    rcases List.mem_append.mp hp with h1 | h1
    · exact hafter p h1
    · exact hoff p h1 lo (by simp)
  · rintro m₁ nx h tk ⟨us, nn, rfl, hI, hk', hp'⟩ F₁ N₁
    exact done m₁ us nn h tk hI hp' (by rw [ov_eq hk']; exact F₁) N₁
theorem rangeLEnd {L lo : Addr} {before after own : List (Addr × Obj)} {o₀ : Obj} {ks : List Str} {kv : List Value} {P : List Int → Prop} {out : List Int} {m' : Str → Option Value} {us : List Value} {nn : Nat} {s₁ : Shared} {h' : Heap} {tk : Nat}
    (F : Fr h₀ L h' m') (N : News h₀ L h' (before ++ (lo, listOf (List.toArray us) nn) :: (after ++ own))) (hi : IntsAre us out) (hk : ks.map m' = kv.map some) (hp : P out) :
    InvEndN h₀ L (LstJ before after lo ks kv P out) own ((before ++ (lo, o₀) :: after).map (·.1)) s₁ { s₁ with heap := h', toks := tk } :=
  InvEndN.intro F N (nx := before ++ (lo, listOf (List.toArray us) nn) :: after) ⟨us, nn, rfl, hi, hk, hp⟩ (adr_same _ _ _ _ _) (fun p hp => by
    rcases List.mem_append.mp hp with h | h
    · exact List.mem_append_left _ h
    · rcases List.mem_cons.mp h with rfl | h
      · exact List.mem_append_right _ (.head _)
      · exact List.mem_append_right _ (.tail _ (List.mem_append_left _ h))) fun p hp => List.mem_append_right _ (.tail _ (List.mem_append_right _ hp))
end
theorem retL {h₀ h' : Heap} {L : Addr} {m : Str → Option Value} {news news' : List (Addr × Obj)} {s : Shared} {Q : Value → Shared → Prop} {ns : List Int} {D : Addr} {us : List Value} {c : Nat} {tk' : Nat}
    (hret : RetL h₀ L m news s Q ns) (F : Fr h₀ L h' m) (N : News h₀ L h' news') (hm : (D, listOf (List.toArray us) c) ∈ news') (hs : ∀ p ∈ news, p ∈ news') (hl : ∀ p ∈ news, p.1 < D) (hi : IntsAre us ns) : Q (.ref D) { s with heap := h', toks := tk' } :=
  hret D us c h' tk' F (fun p hp => N p (by
    rcases List.mem_cons.mp hp with rfl | hp
    · exact hm
    · exact hs p hp)) hl hi
theorem sgn64_nat : ∀ k : Fin 64, (signs62 ++ [43, 47]).getD k.val 0 = b64sgn (k.val : Int) := by decide +kernel
theorem sgn64_at {i : Int} (h0 : 0 ≤ i) (h1 : i < 64) : (signs62 ++ [43, 47]).getD i.toNat 0 = b64sgn i := by
  have h := sgn64_nat ⟨i.toNat, by omega⟩
  simp only at h
  rw [h]
  congr 1
  omega
def pairAt (c : Array UInt8) (i : Int) : Int := (KBw.bInts c).getD i.toNat 0
theorem pairAt_in (c : Array UInt8) (i : Int) : 0 ≤ pairAt c i ∧ pairAt c i < 256 := KBw.getD_in fun k hk => KBw.ints_in hk
def tabStep (t : List Int) (k : Int) : List Int := t.set (b64sgn k).toNat k
def tab64 : List Int := ((rangeKs 0 64).foldl tabStep (List.replicate (Int.toNat 256) [65]).flatten).set 61 64
def tabPair (c : Array UInt8) : List Int := (tab64.set (pairAt c 0).toNat 62).set (pairAt c 1).toNat 63
section
variable {prog : Program} {w : World} {A : Around} {E : Value → Shared → Prop} {s : Shared} {value slice : PySem.Expr} {t ui : Tok} {i : Int} {Q : Value → Shared → Prop}
theorem sgn_item {l : Addr} {us : List Value} (hl : s.heap.IsList l us.toArray) (hi : IntsAre us (signs62 ++ [43, 47])) (h0 : 0 ≤ i) (h1 : i < 64) (h : ∀ t, Q (.int (b64sgn i) t) s)
    (hs : subscripted slice false (.ref l) (.int i ui) = operate [.ref l, .int i ui] (getItem (.ref l) (.int i ui))) : wpAny (model prog w) A (subscriptTail value slice (.ref l) (.int i ui)) Q E s :=
  item_anyK hl hi h0 (by simp only [List.length_append, List.length_cons, List.length_nil]; omega) (by omega) (fun t => by rw [sgn64_at h0 h1]; exact h t) hs
theorem sgn_get {l : Addr} {us : List Value} (hl : s.heap.IsList l us.toArray) (hi : IntsAre us (signs62 ++ [43, 47])) (h0 : 0 ≤ i) (h1 : i < 64) (h : ∀ t, Q (.int (b64sgn i) t) s) : wpAny (model prog w) A (getItem (.ref l) (.int i ui)) Q E s :=
  getItem_intsK hl hi h0 (by simp only [List.length_append, List.length_cons, List.length_nil]; omega) (by omega) (fun t => by rw [sgn64_at h0 h1]; exact h t)
theorem pair_item {c : Array UInt8} (hc : c.size = 2) (h0 : 0 ≤ i) (h1 : i < 2) (h : ∀ t' k, Q (.int (pairAt c i) t') { s with toks := k })
    (hs : subscripted slice false (.bytes c t) (.int i ui) = operate [.bytes c t, .int i ui] (getItem (.bytes c t) (.int i ui)))
    (ht : ∀ r, letTemporaryGo value (.bytes c t) r = pure ()) : wpAny (model prog w) A (subscriptTail value slice (.bytes c t) (.int i ui)) Q E s :=
  KBw.item_K (ks := KBw.bInts c) rfl (by rw [KBw.ints_length, hc]; decide) h0 (by rw [KBw.ints_length, hc]; exact h1) (fun t' k _ _ => h t' k) hs ht
end
section
variable {prog : Program} {w : World} {p : Program} {loose : List Str} {mean : ExcName → Option Value} {mg mb : Str → Option Value}
theorem law_tableN : ClaimL prog w p loose mean mg mb 226 2 [.none] tab64 := by
  dsimp only [ClaimL, RetL]
  intros
  rename_i hret
  refine wpAny_call ?_
  (refine' code_def ?k1 ?k2 ?k3 ?k4 ?k5 ?kA ?kF ?kK ?k6 ?k7 ?k8 ?k9 ?kB ?_ ?c2 ?c3 ?c4 ?c5; (case kA => exact rfl); (case kF => exact rfl); (case kK => assumption); (case k1 => k_asm); (case k2 => k_asm); (case k3 => k_asm); (case k4 => k_asm); (case k5 => k_asm); (case k6 => k_is); (case k7 => k_is); (case k8 => first | (dsimp only [ktrTop]; omega) | ktr_room); (case k9 => first | exact BindsTo.of_eq rfl | exact binds_K (by k_in) rfl (by k_is) rfl rfl rfl); (case c5 => decide); (case kB => exact locs rfl); (case c2 => exact rfl); (case c3 => exact rfl); (case c4 => exact rfl); k_whole; intro g1 L1 h1 FG1 F1 N1 B1 X1 T1; (try dsimp only); (try k_lift B1); (try k_fold))
  (refine hide_defR (P := LeaveK _ _ _ _ _) ?_; intro K9 hR9; (try dsimp only))
  (refine let_around ?_; intro A9)
  k_with_none
  k_with "exec If" => (with_reducible refine wpAny_If ?_)
  k_with "isTrue Compare" => ((with_reducible show wpAny _ _ (isTrue (Expr.Compare (Expr.Name _ _) [CmpOp.Eq] [Expr.Constant (Const.int _) _ _] _) _ _) _ _ _); k_dflt (refine' test_eq ?F ?v ?_ ?a ?b ?d; (case F => k_asm); (case a => rfl); (case b => rfl); (case d => decide); (case v => rfl)); (try dsimp only))
  k_with "isTrue Compare" => ((with_reducible show wpAny _ _ (isTrue (Expr.Compare (Expr.Name _ _) [CmpOp.NotEq] [Expr.Constant (Const.int _) _ _] _) _ _) _ _ _); k_dflt (refine' test_ne ?F ?v ?_ ?a ?b ?d; (case F => k_asm); (case a => rfl); (case b => rfl); (case d => decide); (case v => rfl)); (try dsimp only))
  k_with "isTrue Compare" => ((with_reducible show wpAny _ _ (isTrue (Expr.Compare (Expr.Name _ _) [CmpOp.Lt] [Expr.Constant (Const.int _) _ _] _) _ _) _ _ _); k_dflt (refine' test_lt ?F ?v ?_ ?a ?b ?d; (case F => k_asm); (case a => rfl); (case b => rfl); (case d => decide); (case v => rfl)); (try dsimp only))
  k_with "isTrue Compare" => ((with_reducible show wpAny _ _ (isTrue (Expr.Compare (Expr.Name _ _) [CmpOp.LtE] [Expr.Constant (Const.int _) _ _] _) _ _) _ _ _); k_dflt (refine' test_le ?F ?v ?_ ?a ?b ?d; (case F => k_asm); (case a => rfl); (case b => rfl); (case d => decide); (case v => rfl)); (try dsimp only))
  k_with "isTrue Compare" => ((with_reducible show wpAny _ _ (isTrue (Expr.Compare (Expr.Name _ _) [CmpOp.GtE] [Expr.Constant (Const.int _) _ _] _) _ _) _ _ _); k_dflt (refine' test_ge ?F ?v ?_ ?a ?b ?d; (case F => k_asm); (case a => rfl); (case b => rfl); (case d => decide); (case v => rfl)); (try dsimp only))
  k_with "Thn" => first | (refine hK9 _ _ ?_; (try clear hK9); (try dsimp only)) | (refine hK9 _ ?_; (try clear hK9); (try dsimp only))
  k_with "Rtn" => (refine hR9 _ _ ?_)
  k_with "Trn" => (refine hN9 _ _ ?_; (try dsimp only))
  k_with "ThB" => refine thb_ite ?_
  k_with "ThB true" => (refine hT9 _ ?_; (try clear hT9 hF9); (try dsimp only [List.cons_append, List.nil_append, List.append_nil]))
  k_with "ThB false" => (refine hF9 _ ?_; (try clear hT9 hF9); (try dsimp only [List.cons_append, List.nil_append, List.append_nil]))
  k_with "execs cons If" => (refine flat_if ?_; intro K9 hT9 hF9)
  k_with "execs cons If" => k_dflt ((first | (refine' if_pb (lit := false) (n := 6) ?F ?c ?_ ?_; (case F => k_asm); (case c => exact rfl)) | (refine' if_p (lit := false) (n := 6) ?F ?c ?_ ?_; (case F => k_asm); (case c => exact rfl))); (all_goals (intro k9 hb9; first | (exfalso; omega) | dsimp only [List.cons_append, List.nil_append, List.append_nil] | skip)))
  k_with "execs cons If" => k_dflt ((first | (refine' if_T (lit := true) (n := 6) ?F ?c ?_; (case F => k_asm); (case c => exact rfl)) | (refine' if_F (lit := true) (n := 6) ?F ?c ?_; (case F => k_asm); (case c => exact rfl))); intro k9; (try dsimp only [List.cons_append, List.nil_append, List.append_nil]))
  k_with "execs cons If" => k_dflt (refine' if_p (lit := true) (n := 6) ?F ?c ?_ ?_; (case F => k_asm); (case c => exact rfl); (all_goals (intro k9 hb9; first | (exfalso; omega) | dsimp only [List.cons_append, List.nil_append, List.append_nil] | skip)))
  k_with "execs cons Assign" => ((fail_if_success (with_reducible show wpAny _ _ (execs (Stmt.Assign _ (Expr.ListComp _ _ _ _) _ :: _) _) _ _ _)); refine' flat_asg ?_ ?s; (case s => exact rfl); intro K9 hK9)
  k_with "execs cons Assign" => k_dflt (refine' asg_ev (n := 6) ?F ?N ?L ?x ?s ?e ?_; (case F => k_asm); (case N => k_asm); (case L => exact rfl); (case x => exact rfl); (case s => exact rfl); (case e => exact rfl); intro t9 k9 h' m9 F' N'; (try dsimp only); (try k_sweep))
  k_with "storeName" => k_dflt (refine' store_ev ?F ?N ?L ?x ?_; (case F => k_asm); (case N => k_asm); (case L => exact rfl); (case x => exact rfl); intro h' k9 m9 F' N'; (try dsimp only); (try k_sweep))
  k_with "execs cons Return" => (refine flat_ret ?_; intro K9 hK9)
  k_with "execs cons Return" => k_dflt (refine' ret_ev (n := 6) ?F ?e ?_; (case F => k_asm); (case e => exact rfl); intro t9 k9; (try dsimp only))
  k_with "execs cons Expr" => (refine' flat_expr ?_ ?i ?s; (case i => exact rfl); (case s => exact rfl); intro K9 hK9)
  k_with "execs cons Raise" => refine flat_raise ?_
  k_with "execs cons Continue" => refine flat_cont ?_
  k_with "spliced" => plain_pass; k_dflt (refine' args_ev (n := 6) ?F ?e ?_; (case F => k_asm); (case e => exact rfl); intro t9 k9; (try dsimp only [vals, List.cons_append, List.nil_append]))
  k_with "eval Call Name" => plain_pass; k_dflt (refine' callN_ev (n := 6) ?F ?X ?T ?f ?v ?w ?g ?e ?_ ?a ?b ?d; (case F => k_asm); (case e => exact rfl); (case b => exact rfl); (case X => k_asm); (case T => k_asm); (case a => exact rfl); (case f => k_is); (case v => boot_fast); (case w => exact rfl); (case g => decide); (case d => decide); intro t9 k9; (try dsimp only [vals]))
  k_with "eval Call Name" => plain_pass; k_dflt (refine' call_ev (n := 6) ?F ?X ?T ?f ?k ?e ?_ ?a ?b ?d; (case F => k_asm); (case e => exact rfl); (case b => exact rfl); (case X => k_asm); (case T => k_asm); (case a => exact rfl); (case f => k_is); (case k => k_is); (case d => decide); intro t9 k9; (try dsimp only [vals]))
  k_with "call ref" => ((show wpAny _ _ (call (Value.ref 197) []) _ _ _); (refine' law_signs _ _ _ _ _ _ _ _ _ _ _ _ _ _ _ _ _ _ ?k1 ?k2 ?k3 ?k4 ?k5 ?kK ?kd ?ku ?_; (case k1 => k_asm); (case k2 => k_asm); (case k3 => k_asm); (case k4 => k_asm); (case k5 => k_asm); (case kK => first | exact rfl | assumption); (case kd => first | (dsimp only [Around.deeper]; omega) | ktr_room); (case ku => first | (dsimp only [Around.deeper]; omega) | ktr_units); intro D9 us9 c9 h9 k9 F9 N9 l9 hI9; (try dsimp only); (try k_fold)))
  k_with "call builtin:list.append" => ((with_reducible show wpAny _ _ (call (Value.builtin "list.append") [Value.ref _, Value.int _ _]) _ _ _); (refine' append_L ?k1 ?k2 ?k3 ?k4 ?k5 ?_; (case k1 => k_asm); (case k2 => k_asm); (case k3 => k_upd); (case k4 => assumption); (case k5 => first | omega | ((simp only [List.length_append, List.length_map, regGroups_len, KBw.ints_length, List.length_cons, List.length_nil]); omega)); intro h9 F9 N9 hI9; (try dsimp only)))
  k_with "binaryOp Add ref ref" => ((with_reducible show wpAny _ _ (binaryOp _ (Value.ref _) (Value.ref _)) _ _ _); (refine' kmk_add_ints ?F ?N ?a ?b ?i ?j ?_ ?z; (case F => k_asm); (case N => k_asm); (case a => exact News.isList (by k_asm) (by k_mem)); (case b => exact News.isList (by k_asm) (by k_mem)); (case i => assumption); (case j => assumption); (case z => (simp only [sizeLine_eq, KBw.ints_length, List.length_cons, List.length_nil]; omega))); intro D9 us9 h9 F9 N9 l9 hI9; (try dsimp only))
  k_with "InvEndN" => refine stop ?_
  k_with "pyIter ref" => refine stop ?_
  k_with "subscriptTail Name Name ref int" => ((with_reducible show wpAny _ _ (subscriptTail _ _ (Value.ref _) (Value.int _ _)) _ _ _); (refine' sgn_item ?k1 ?k2 ?k3 ?k4 ?_ ?k5; (case k1 => exact News.isList (by k_asm) (by k_mem)); (case k2 => assumption); (case k3 => omega); (case k4 => omega); (case k5 => with_unfolding_all rfl); intro t9; (try dsimp only)))
  k_with "subscriptTail" => ((with_reducible show wpAny _ _ (subscriptTail _ _ (Value.bytes _ _) (Value.int _ _)) _ _ _); (refine' pair_item ?k1 ?k2 ?k3 ?_ ?k4 ?k5; (case k1 => assumption); (case k2 => omega); (case k3 => omega); (case k4 => with_unfolding_all rfl); (case k5 => (intro _; with_unfolding_all rfl)); intro t9 k9; (try dsimp only)))
  k_with "getItem ref int" => ((refine' sgn_get ?k1 ?k2 ?k3 ?k4 ?_; (case k1 => exact News.isList (by k_asm) (by k_mem)); (case k2 => assumption); (case k3 => omega); (case k4 => omega)); intro t9; (try dsimp only))
  k_with "setItem ref int" => ((with_reducible show wpAny _ _ (setItem (Value.ref _) (Value.int _ _) (Value.int _ _)) _ _ _); (refine' ksa_set ?k1 ?k2 ?k3 ?k4 ?k5 ?k6 ?k7 ?_; (case k1 => k_asm); (case k2 => k_asm); (case k3 => k_upd); (case k4 => assumption); (case k5 => omega); (case k6 => omega); (case k7 => omega)); intro h9 F9 N9 hI9 hl9 hs9; clear hs9; (try dsimp only))
  k_steps
  refine Stop.go (rangeL (n := 64) (before := [_, _, _]) (after := _ :: _) [Str.ofString "pair", Str.ofString "table", Str.ofString "signs"] (fun out => out.length = 256) tabStep rfl (by assumption) (by decide) (by rfl) (by k_asm) (by k_asm) (by k_all) (by assumption) (kv := [_, _, _]) (by rfl) (by decide) ?_ ?_)
  · intro k t u out us nn h tk own hk0 hk1 hoff hI hP F1 N1
    have hk1 : k < 64 := by omega
    have hs := b64sgn_in hk0 hk1
    simp only [List.cons_append, List.nil_append] at N1 hoff
    simp only [ov] at F1
    try k_fold
    refine hide_turn ?_; intro T9 hN9
    k_steps
    rw [sgn64_at hk0 hk1]
    k_steps
    refine Stop.go (rangeLEnd (before := [_, _, _]) (after := _ :: _) (by k_asm) (by k_asm) (by assumption) (by rfl) (by show (out.set _ _).length = 256; rw [List.length_set]; exact hP))
  · intro u us nn h tk hI hP F1 N1
    simp only [List.cons_append, List.nil_append] at N1
    simp only [ov] at F1
    try k_fold
    k_steps
    exact retL hret (by k_asm) (by k_asm) (by k_mem) (fun p hp => .tail _ (.tail _ (.tail _ (.tail _ (.tail _ hp))))) (by first | assumption | exact allLt_mem (by simp only [*]; done)) (by assumption)
theorem law_tableP (c : Array UInt8) (tc : Tok) (hc : c.size = 2) : ClaimL prog w p loose mean mg mb 226 2 [.bytes c tc] (tabPair c) := by
  dsimp only [ClaimL, RetL]
  intros
  rename_i hret
  have hp0 := pairAt_in c 0
  have hp1 := pairAt_in c 1
  refine wpAny_call ?_
  (refine' code_def ?k1 ?k2 ?k3 ?k4 ?k5 ?kA ?kF ?kK ?k6 ?k7 ?k8 ?k9 ?kB ?_ ?c2 ?c3 ?c4 ?c5; (case kA => exact rfl); (case kF => exact rfl); (case kK => assumption); (case k1 => k_asm); (case k2 => k_asm); (case k3 => k_asm); (case k4 => k_asm); (case k5 => k_asm); (case k6 => k_is); (case k7 => k_is); (case k8 => first | (dsimp only [ktrTop]; omega) | ktr_room); (case k9 => first | exact BindsTo.of_eq rfl | exact binds_K (by k_in) rfl (by k_is) rfl rfl rfl); (case c5 => decide); (case kB => exact locs rfl); (case c2 => exact rfl); (case c3 => exact rfl); (case c4 => exact rfl); k_whole; intro g1 L1 h1 FG1 F1 N1 B1 X1 T1; (try dsimp only); (try k_lift B1); (try k_fold))
  (refine hide_defR (P := LeaveK _ _ _ _ _) ?_; intro K9 hR9; (try dsimp only))
  (refine let_around ?_; intro A9)
  k_with_none
  k_with "exec If" => (with_reducible refine wpAny_If ?_)
  k_with "isTrue Compare" => ((with_reducible show wpAny _ _ (isTrue (Expr.Compare (Expr.Name _ _) [CmpOp.Eq] [Expr.Constant (Const.int _) _ _] _) _ _) _ _ _); k_dflt (refine' test_eq ?F ?v ?_ ?a ?b ?d; (case F => k_asm); (case a => rfl); (case b => rfl); (case d => decide); (case v => rfl)); (try dsimp only))
  k_with "isTrue Compare" => ((with_reducible show wpAny _ _ (isTrue (Expr.Compare (Expr.Name _ _) [CmpOp.NotEq] [Expr.Constant (Const.int _) _ _] _) _ _) _ _ _); k_dflt (refine' test_ne ?F ?v ?_ ?a ?b ?d; (case F => k_asm); (case a => rfl); (case b => rfl); (case d => decide); (case v => rfl)); (try dsimp only))
  k_with "isTrue Compare" => ((with_reducible show wpAny _ _ (isTrue (Expr.Compare (Expr.Name _ _) [CmpOp.Lt] [Expr.Constant (Const.int _) _ _] _) _ _) _ _ _); k_dflt (refine' test_lt ?F ?v ?_ ?a ?b ?d; (case F => k_asm); (case a => rfl); (case b => rfl); (case d => decide); (case v => rfl)); (try dsimp only))
  k_with "isTrue Compare" => ((with_reducible show wpAny _ _ (isTrue (Expr.Compare (Expr.Name _ _) [CmpOp.LtE] [Expr.Constant (Const.int _) _ _] _) _ _) _ _ _); k_dflt (refine' test_le ?F ?v ?_ ?a ?b ?d; (case F => k_asm); (case a => rfl); (case b => rfl); (case d => decide); (case v => rfl)); (try dsimp only))
  k_with "isTrue Compare" => ((with_reducible show wpAny _ _ (isTrue (Expr.Compare (Expr.Name _ _) [CmpOp.GtE] [Expr.Constant (Const.int _) _ _] _) _ _) _ _ _); k_dflt (refine' test_ge ?F ?v ?_ ?a ?b ?d; (case F => k_asm); (case a => rfl); (case b => rfl); (case d => decide); (case v => rfl)); (try dsimp only))
  k_with "Thn" => first | (refine hK9 _ _ ?_; (try clear hK9); (try dsimp only)) | (refine hK9 _ ?_; (try clear hK9); (try dsimp only))
  k_with "Rtn" => (refine hR9 _ _ ?_)
  k_with "Trn" => (refine hN9 _ _ ?_; (try dsimp only))
  k_with "ThB" => refine thb_ite ?_
  k_with "ThB true" => (refine hT9 _ ?_; (try clear hT9 hF9); (try dsimp only [List.cons_append, List.nil_append, List.append_nil]))
  k_with "ThB false" => (refine hF9 _ ?_; (try clear hT9 hF9); (try dsimp only [List.cons_append, List.nil_append, List.append_nil]))
  k_with "execs cons If" => (refine flat_if ?_; intro K9 hT9 hF9)
  k_with "execs cons If" => k_dflt ((first | (refine' if_pb (lit := false) (n := 6) ?F ?c ?_ ?_; (case F => k_asm); (case c => exact rfl)) | (refine' if_p (lit := false) (n := 6) ?F ?c ?_ ?_; (case F => k_asm); (case c => exact rfl))); (all_goals (intro k9 hb9; first | (exfalso; omega) | dsimp only [List.cons_append, List.nil_append, List.append_nil] | skip)))
  k_with "execs cons If" => k_dflt ((first | (refine' if_T (lit := true) (n := 6) ?F ?c ?_; (case F => k_asm); (case c => exact rfl)) | (refine' if_F (lit := true) (n := 6) ?F ?c ?_; (case F => k_asm); (case c => exact rfl))); intro k9; (try dsimp only [List.cons_append, List.nil_append, List.append_nil]))
  k_with "execs cons If" => k_dflt (refine' if_p (lit := true) (n := 6) ?F ?c ?_ ?_; (case F => k_asm); (case c => exact rfl); (all_goals (intro k9 hb9; first | (exfalso; omega) | dsimp only [List.cons_append, List.nil_append, List.append_nil] | skip)))
  k_with "execs cons Assign" => ((fail_if_success (with_reducible show wpAny _ _ (execs (Stmt.Assign _ (Expr.ListComp _ _ _ _) _ :: _) _) _ _ _)); refine' flat_asg ?_ ?s; (case s => exact rfl); intro K9 hK9)
  k_with "execs cons Assign" => k_dflt (refine' asg_ev (n := 6) ?F ?N ?L ?x ?s ?e ?_; (case F => k_asm); (case N => k_asm); (case L => exact rfl); (case x => exact rfl); (case s => exact rfl); (case e => exact rfl); intro t9 k9 h' m9 F' N'; (try dsimp only); (try k_sweep))
  k_with "storeName" => k_dflt (refine' store_ev ?F ?N ?L ?x ?_; (case F => k_asm); (case N => k_asm); (case L => exact rfl); (case x => exact rfl); intro h' k9 m9 F' N'; (try dsimp only); (try k_sweep))
  k_with "execs cons Return" => (refine flat_ret ?_; intro K9 hK9)
  k_with "execs cons Return" => k_dflt (refine' ret_ev (n := 6) ?F ?e ?_; (case F => k_asm); (case e => exact rfl); intro t9 k9; (try dsimp only))
  k_with "execs cons Expr" => (refine' flat_expr ?_ ?i ?s; (case i => exact rfl); (case s => exact rfl); intro K9 hK9)
  k_with "execs cons Raise" => refine flat_raise ?_
  k_with "execs cons Continue" => refine flat_cont ?_
  k_with "spliced" => plain_pass; k_dflt (refine' args_ev (n := 6) ?F ?e ?_; (case F => k_asm); (case e => exact rfl); intro t9 k9; (try dsimp only [vals, List.cons_append, List.nil_append]))
  k_with "eval Call Name" => plain_pass; k_dflt (refine' callN_ev (n := 6) ?F ?X ?T ?f ?v ?w ?g ?e ?_ ?a ?b ?d; (case F => k_asm); (case e => exact rfl); (case b => exact rfl); (case X => k_asm); (case T => k_asm); (case a => exact rfl); (case f => k_is); (case v => boot_fast); (case w => exact rfl); (case g => decide); (case d => decide); intro t9 k9; (try dsimp only [vals]))
  k_with "eval Call Name" => plain_pass; k_dflt (refine' call_ev (n := 6) ?F ?X ?T ?f ?k ?e ?_ ?a ?b ?d; (case F => k_asm); (case e => exact rfl); (case b => exact rfl); (case X => k_asm); (case T => k_asm); (case a => exact rfl); (case f => k_is); (case k => k_is); (case d => decide); intro t9 k9; (try dsimp only [vals]))
  k_with "call ref" => ((show wpAny _ _ (call (Value.ref 197) []) _ _ _); (refine' law_signs _ _ _ _ _ _ _ _ _ _ _ _ _ _ _ _ _ _ ?k1 ?k2 ?k3 ?k4 ?k5 ?kK ?kd ?ku ?_; (case k1 => k_asm); (case k2 => k_asm); (case k3 => k_asm); (case k4 => k_asm); (case k5 => k_asm); (case kK => first | exact rfl | assumption); (case kd => first | (dsimp only [Around.deeper]; omega) | ktr_room); (case ku => first | (dsimp only [Around.deeper]; omega) | ktr_units); intro D9 us9 c9 h9 k9 F9 N9 l9 hI9; (try dsimp only); (try k_fold)))
  k_with "call builtin:list.append" => ((with_reducible show wpAny _ _ (call (Value.builtin "list.append") [Value.ref _, Value.int _ _]) _ _ _); (refine' append_L ?k1 ?k2 ?k3 ?k4 ?k5 ?_; (case k1 => k_asm); (case k2 => k_asm); (case k3 => k_upd); (case k4 => assumption); (case k5 => first | omega | ((simp only [List.length_append, List.length_map, regGroups_len, KBw.ints_length, List.length_cons, List.length_nil]); omega)); intro h9 F9 N9 hI9; (try dsimp only)))
  k_with "binaryOp Add ref ref" => ((with_reducible show wpAny _ _ (binaryOp _ (Value.ref _) (Value.ref _)) _ _ _); (refine' kmk_add_ints ?F ?N ?a ?b ?i ?j ?_ ?z; (case F => k_asm); (case N => k_asm); (case a => exact News.isList (by k_asm) (by k_mem)); (case b => exact News.isList (by k_asm) (by k_mem)); (case i => assumption); (case j => assumption); (case z => (simp only [sizeLine_eq, KBw.ints_length, List.length_cons, List.length_nil]; omega))); intro D9 us9 h9 F9 N9 l9 hI9; (try dsimp only))
  k_with "InvEndN" => refine stop ?_
  k_with "pyIter ref" => refine stop ?_
  k_with "subscriptTail Name Name ref int" => ((with_reducible show wpAny _ _ (subscriptTail _ _ (Value.ref _) (Value.int _ _)) _ _ _); (refine' sgn_item ?k1 ?k2 ?k3 ?k4 ?_ ?k5; (case k1 => exact News.isList (by k_asm) (by k_mem)); (case k2 => assumption); (case k3 => omega); (case k4 => omega); (case k5 => with_unfolding_all rfl); intro t9; (try dsimp only)))
  k_with "subscriptTail" => ((with_reducible show wpAny _ _ (subscriptTail _ _ (Value.bytes _ _) (Value.int _ _)) _ _ _); (refine' pair_item ?k1 ?k2 ?k3 ?_ ?k4 ?k5; (case k1 => assumption); (case k2 => omega); (case k3 => omega); (case k4 => with_unfolding_all rfl); (case k5 => (intro _; with_unfolding_all rfl)); intro t9 k9; (try dsimp only)))
  k_with "getItem ref int" => ((refine' sgn_get ?k1 ?k2 ?k3 ?k4 ?_; (case k1 => exact News.isList (by k_asm) (by k_mem)); (case k2 => assumption); (case k3 => omega); (case k4 => omega)); intro t9; (try dsimp only))
  k_with "setItem ref int" => ((with_reducible show wpAny _ _ (setItem (Value.ref _) (Value.int _ _) (Value.int _ _)) _ _ _); (refine' ksa_set ?k1 ?k2 ?k3 ?k4 ?k5 ?k6 ?k7 ?_; (case k1 => k_asm); (case k2 => k_asm); (case k3 => k_upd); (case k4 => assumption); (case k5 => omega); (case k6 => omega); (case k7 => omega)); intro h9 F9 N9 hI9 hl9 hs9; clear hs9; (try dsimp only))
  k_steps
  refine Stop.go (rangeL (n := 64) (before := [_, _, _]) (after := _ :: _) [Str.ofString "pair", Str.ofString "table", Str.ofString "signs"] (fun out => out.length = 256) tabStep rfl (by assumption) (by decide) (by rfl) (by k_asm) (by k_asm) (by k_all) (by assumption) (kv := [_, _, _]) (by rfl) (by decide) ?_ ?_)
  · intro k t u out us nn h tk own hk0 hk1 hoff hI hP F1 N1
    have hk1 : k < 64 := by omega
    have hs := b64sgn_in hk0 hk1
    simp only [List.cons_append, List.nil_append] at N1 hoff
    simp only [ov] at F1
    try k_fold
    refine hide_turn ?_; intro T9 hN9
    k_steps
    rw [sgn64_at hk0 hk1]
    k_steps
    refine Stop.go (rangeLEnd (before := [_, _, _]) (after := _ :: _) (by k_asm) (by k_asm) (by assumption) (by rfl) (by show (out.set _ _).length = 256; rw [List.length_set]; exact hP))
  · intro u us nn h tk hI hP F1 N1
    simp only [List.cons_append, List.nil_append] at N1
    simp only [ov] at F1
    try k_fold
    k_steps
    exact retL hret (by k_asm) (by k_asm) (by k_mem) (fun p hp => .tail _ (.tail _ (.tail _ (.tail _ (.tail _ hp))))) (by first | assumption | exact allLt_mem (by simp only [*]; done)) (by assumption)
end
end

theorem reset28 : True := by
  w_top off
  k_with_none
  trivial
section
/-- None, False, or a row -/
def resO (r : Option (Option (List Int))) (t : Tok) : Value := match r with | none => .none | some o => resV o t
def at64 (T : List Int) (x : Int) : Int := T.getD x.toNat 0
abbrev St64 := Except (Option (Option (List Int))) (List Int × Int)
def step64 (T : List Int) (strict : Bool) (st : List Int × Int) (x : Int) : St64 :=
  if at64 T x = 64 then .ok (st.1, st.2 + 1)
  else if at64 T x = 65 then (if strict = true then .error (some none) else .ok st)
  else if st.2 ≠ 0 then .error (if strict = true then some none else none)
  else .ok (st.1 ++ [at64 T x], st.2)
def fold64 (T : List Int) (strict : Bool) (ns : List Int) : St64 := ns.foldl (fun st x => st.bind fun q => step64 T strict q x) (.ok ([], 0))
def lim64 (n : Int) : Int := [0, 3, 2, 1].getD n.toNat 0
def fin64 (st : List Int × Int) : Option (Option (List Int)) :=
  if lim64 ((st.1.length : Int) % 4) < st.2 then none
  else if (st.1.length : Int) % 4 = 1 ∨ ((st.1.length : Int) % 4 = 2 ∧ st.2 ≠ 2) ∨ ((st.1.length : Int) % 4 = 3 ∧ st.2 ≠ 1) then some none
  else some (some (regGroups 6 8 st.1))
def from64 (T : List Int) (strict : Bool) (ns : List Int) : Option (Option (List Int)) := match fold64 T strict ns with | .error r => r | .ok st => fin64 st
theorem fold64_snoc (T : List Int) (strict : Bool) (pre : List Int) (n : Int) : fold64 T strict (pre ++ [n]) = (fold64 T strict pre).bind fun q => step64 T strict q n := by simp [fold64]
theorem fold64_err (T : List Int) (strict : Bool) (l : List Int) (r : Option (Option (List Int))) : l.foldl (fun st x => st.bind fun q => step64 T strict q x) (.error r : St64) = .error r := by
  induction l with
  | nil => rfl
  | cons n l ih => exact ih
theorem from64_cut {T : List Int} {strict : Bool} {pre post ns : List Int} {n : Int} {st : List Int × Int} {r : Option (Option (List Int))} (h : ns = pre ++ n :: post) (hp : fold64 T strict pre = .ok st) (hn : step64 T strict st n = .error r) : from64 T strict ns = r := by
  have h1 : fold64 T strict (pre ++ [n]) = .error r := by rw [fold64_snoc, hp]; exact hn
  have h2 : fold64 T strict ns = .error r := by
    rw [h, show pre ++ n :: post = (pre ++ [n]) ++ post from by simp]
    unfold fold64 at *
    rw [List.foldl_append, h1, fold64_err]
  unfold from64
  rw [h2]
theorem from64_ok {T : List Int} {strict : Bool} {ns : List Int} {st : List Int × Int} (hp : fold64 T strict ns = .ok st) : from64 T strict ns = fin64 st := by
  unfold from64
  rw [hp]
theorem step64_pad {T : List Int} {strict : Bool} {out : List Int} {pd x : Int} (h : at64 T x = 64) : step64 T strict (out, pd) x = .ok (out, pd + 1) := by
  unfold step64
  rw [if_pos h]
theorem step64_skip {T : List Int} {strict : Bool} {out : List Int} {pd x : Int} (h : at64 T x = 65) (hs : strict = false) : step64 T strict (out, pd) x = .ok (out, pd) := by
  unfold step64
  rw [if_neg (by omega), if_pos h, if_neg (by rw [hs]; decide)]
theorem step64_bad {T : List Int} {strict : Bool} {out : List Int} {pd x : Int} (h : at64 T x = 65) (hs : strict = true) : step64 T strict (out, pd) x = .error (some none) := by
  unfold step64
  rw [if_neg (by omega), if_pos h, if_pos hs]
theorem step64_lateS {T : List Int} {strict : Bool} {out : List Int} {pd x : Int} (h : at64 T x ≠ 64) (h' : at64 T x ≠ 65) (hp : pd ≠ 0) (hs : strict = true) : step64 T strict (out, pd) x = .error (some none) := by
  unfold step64
  rw [if_neg h, if_neg h', if_pos hp, if_pos hs]
theorem step64_lateN {T : List Int} {strict : Bool} {out : List Int} {pd x : Int} (h : at64 T x ≠ 64) (h' : at64 T x ≠ 65) (hp : pd ≠ 0) (hs : strict = false) : step64 T strict (out, pd) x = .error none := by
  unfold step64
  rw [if_neg h, if_neg h', if_pos hp, if_neg (by rw [hs]; decide)]
theorem step64_add {T : List Int} {strict : Bool} {out : List Int} {pd x : Int} (h : at64 T x ≠ 64) (h' : at64 T x ≠ 65) (hp : pd = 0) : step64 T strict (out, pd) x = .ok (out ++ [at64 T x], pd) := by
  unfold step64
  rw [if_neg h, if_neg h', if_neg (fun e => e hp)]
/-- between the turns -/
def P64 (T : List Int) (strict : Bool) (pre out as : List Int) : Prop := ∃ pd, as = [pd] ∧ fold64 T strict pre = .ok (out, pd) ∧ 0 ≤ pd ∧ out.length ≤ pre.length ∧ pd ≤ (pre.length : Int)
theorem P64.start (T : List Int) (strict : Bool) : P64 T strict [] [] [0] := ⟨0, rfl, rfl, by decide, by decide, by decide⟩
theorem P64.next {T : List Int} {strict : Bool} {pre out out' : List Int} {n pd pd' : Int} (h : fold64 T strict pre = .ok (out, pd)) (hs : step64 T strict (out, pd) n = .ok (out', pd')) (h0 : 0 ≤ pd') (h1 : out'.length ≤ pre.length + 1) (h2 : pd' ≤ (pre.length : Int) + 1) : P64 T strict (pre ++ [n]) out' [pd'] :=
  ⟨pd', rfl, by rw [fold64_snoc, h]; exact hs, h0, by rw [List.length_append, List.length_singleton]; exact h1, by rw [List.length_append, List.length_singleton]; omega⟩
/-- a def that reads a list of ints of the caller's -/
abbrev ClaimM (prog : Program) (w : World) (p : Program) (loose : List Str) (mean : ExcName → Option Value) (mg mb : Str → Option Value) (f : Addr) (need : Nat) (l : Addr) (ws : List Value) (nl : Nat) (vs : List Value) (R : Tok → Value) : Prop :=
  ∀ (dp un : Nat) (gd : Option (List Code)) (cn : Str) (cs : Scope) (a : Addr) (ccd : Value) (cl : List (Str × Addr)) (outer : List Env) (A₀ : Around) (base h₀ : Heap) (L : Addr) (m : Str → Option Value) (news : List (Addr × Obj)) (s : Shared) (Q E : Value → Shared → Prop),
    Below A₀ base outer h₀ → Fr h₀ L s.heap m → (hd.heap_39 w.params).In h₀ → News h₀ L s.heap news → (l, listOf (List.toArray ws) nl) ∈ news → Top p loose mean mg mb h₀ → cs.kind = .function →
    dp + need < recursionLimit → un + 8 * need < cLine → RetV h₀ L m news s Q R →
      wpAny (model prog w) (ktrTop dp un gd cn cs L a ccd cl outer) (call (.ref f) vs) Q E s
section
variable {prog : Program} {w : World} {A : Around} {E : Value → Shared → Prop} {s : Shared} {value slice : PySem.Expr} {ui : Tok} {i : Int} {Q : Value → Shared → Prop}
theorem tab_item {l : Addr} {us : List Value} {T : List Int} (hl : s.heap.IsList l us.toArray) (hi : IntsAre us T) (hT : T.length = 256) (h0 : 0 ≤ i) (h1 : i < 256) (h : ∀ t, Q (.int (at64 T i) t) s)
    (hs : subscripted slice false (.ref l) (.int i ui) = operate [.ref l, .int i ui] (getItem (.ref l) (.int i ui))) : wpAny (model prog w) A (subscriptTail value slice (.ref l) (.int i ui)) Q E s :=
  item_anyK hl hi h0 (by omega) (by omega) h hs
end
section
variable {prog : Program} {w : World} {p : Program} {loose : List Str} {mean : ExcName → Option Value} {mg mb : Str → Option Value}
theorem law_from64 (b : Array UInt8) (tb : Tok) (strict : Bool) (l : Addr) (ws : List Value) (nl : Nat) (T : List Int) (hb : b.size ≤ 12) (hw : IntsAre ws T) (hT : T.length = 256) : ClaimM prog w p loose mean mg mb 233 2 l ws nl [.bytes b tb, .ref l, .bool strict] (resO (from64 T strict (KBw.bInts b))) := by
  dsimp only [ClaimM, RetV]
  intros
  rename_i hmem _ _ _ _ hret
  refine wpAny_call ?_
  (refine' code_def ?k1 ?k2 ?k3 ?k4 ?k5 ?kA ?kF ?kK ?k6 ?k7 ?k8 ?k9 ?kB ?_ ?c2 ?c3 ?c4 ?c5; (case kA => exact rfl); (case kF => exact rfl); (case kK => assumption); (case k1 => k_asm); (case k2 => k_asm); (case k3 => k_asm); (case k4 => k_asm); (case k5 => k_asm); (case k6 => k_is); (case k7 => k_is); (case k8 => first | (dsimp only [ktrTop]; omega) | ktr_room); (case k9 => first | exact BindsTo.of_eq rfl | exact binds_K (by k_in) rfl (by k_is) rfl rfl rfl); (case c5 => decide); (case kB => exact locs rfl); (case c2 => exact rfl); (case c3 => exact rfl); (case c4 => exact rfl); k_whole; intro g1 L1 h1 FG1 F1 N1 B1 X1 T1; (try dsimp only); (try k_lift B1); (try k_fold))
  (refine hide_defR (P := LeaveK _ _ _ _ _) ?_; intro K9 hR9; (try dsimp only))
  (refine let_around ?_; intro A9)
  k_with_none
  k_with "exec If" => (with_reducible refine wpAny_If ?_)
  k_with "isTrue Compare" => ((with_reducible show wpAny _ _ (isTrue (Expr.Compare (Expr.Name _ _) [CmpOp.Eq] [Expr.Constant (Const.int _) _ _] _) _ _) _ _ _); k_dflt (refine' test_eq ?F ?v ?_ ?a ?b ?d; (case F => k_asm); (case a => rfl); (case b => rfl); (case d => decide); (case v => rfl)); (try dsimp only))
  k_with "isTrue Compare" => ((with_reducible show wpAny _ _ (isTrue (Expr.Compare (Expr.Name _ _) [CmpOp.NotEq] [Expr.Constant (Const.int _) _ _] _) _ _) _ _ _); k_dflt (refine' test_ne ?F ?v ?_ ?a ?b ?d; (case F => k_asm); (case a => rfl); (case b => rfl); (case d => decide); (case v => rfl)); (try dsimp only))
  k_with "isTrue Compare" => ((with_reducible show wpAny _ _ (isTrue (Expr.Compare (Expr.Name _ _) [CmpOp.Lt] [Expr.Constant (Const.int _) _ _] _) _ _) _ _ _); k_dflt (refine' test_lt ?F ?v ?_ ?a ?b ?d; (case F => k_asm); (case a => rfl); (case b => rfl); (case d => decide); (case v => rfl)); (try dsimp only))
  k_with "isTrue Compare" => ((with_reducible show wpAny _ _ (isTrue (Expr.Compare (Expr.Name _ _) [CmpOp.LtE] [Expr.Constant (Const.int _) _ _] _) _ _) _ _ _); k_dflt (refine' test_le ?F ?v ?_ ?a ?b ?d; (case F => k_asm); (case a => rfl); (case b => rfl); (case d => decide); (case v => rfl)); (try dsimp only))
  k_with "isTrue Compare" => ((with_reducible show wpAny _ _ (isTrue (Expr.Compare (Expr.Name _ _) [CmpOp.GtE] [Expr.Constant (Const.int _) _ _] _) _ _) _ _ _); k_dflt (refine' test_ge ?F ?v ?_ ?a ?b ?d; (case F => k_asm); (case a => rfl); (case b => rfl); (case d => decide); (case v => rfl)); (try dsimp only))
  k_with "Thn" => first | (refine hK9 _ _ ?_; (try clear hK9); (try dsimp only)) | (refine hK9 _ ?_; (try clear hK9); (try dsimp only))
  k_with "Rtn" => (refine hR9 _ _ ?_)
  k_with "Trn" => (refine hN9 _ _ ?_; (try dsimp only))
  k_with "ThB" => refine thb_ite ?_
  k_with "ThB true" => (refine hT9 _ ?_; (try clear hT9 hF9); (try dsimp only [List.cons_append, List.nil_append, List.append_nil]))
  k_with "ThB false" => (refine hF9 _ ?_; (try clear hT9 hF9); (try dsimp only [List.cons_append, List.nil_append, List.append_nil]))
  k_with "execs cons If" => (refine flat_if ?_; intro K9 hT9 hF9)
  k_with "execs cons If" => k_dflt ((first | (refine' if_pb (lit := false) (n := 6) ?F ?c ?_ ?_; (case F => k_asm); (case c => exact rfl)) | (refine' if_p (lit := false) (n := 6) ?F ?c ?_ ?_; (case F => k_asm); (case c => exact rfl))); (all_goals (intro k9 hb9; first | (exfalso; omega) | dsimp only [List.cons_append, List.nil_append, List.append_nil] | skip)))
  k_with "execs cons If" => k_dflt ((first | (refine' if_T (lit := true) (n := 6) ?F ?c ?_; (case F => k_asm); (case c => exact rfl)) | (refine' if_F (lit := true) (n := 6) ?F ?c ?_; (case F => k_asm); (case c => exact rfl))); intro k9; (try dsimp only [List.cons_append, List.nil_append, List.append_nil]))
  k_with "execs cons If" => k_dflt (refine' if_p (lit := true) (n := 6) ?F ?c ?_ ?_; (case F => k_asm); (case c => exact rfl); (all_goals (intro k9 hb9; first | (exfalso; omega) | dsimp only [List.cons_append, List.nil_append, List.append_nil] | skip)))
  k_with "execs cons Assign" => ((fail_if_success (with_reducible show wpAny _ _ (execs (Stmt.Assign _ (Expr.ListComp _ _ _ _) _ :: _) _) _ _ _)); refine' flat_asg ?_ ?s; (case s => exact rfl); intro K9 hK9)
  k_with "execs cons Assign" => k_dflt (refine' asg_ev (n := 6) ?F ?N ?L ?x ?s ?e ?_; (case F => k_asm); (case N => k_asm); (case L => exact rfl); (case x => exact rfl); (case s => exact rfl); (case e => exact rfl); intro t9 k9 h' m9 F' N'; (try dsimp only); (try k_sweep))
  k_with "storeName" => k_dflt (refine' store_ev ?F ?N ?L ?x ?_; (case F => k_asm); (case N => k_asm); (case L => exact rfl); (case x => exact rfl); intro h' k9 m9 F' N'; (try dsimp only); (try k_sweep))
  k_with "execs cons Return" => (refine flat_ret ?_; intro K9 hK9)
  k_with "execs cons Return" => k_dflt (refine' ret_ev (n := 6) ?F ?e ?_; (case F => k_asm); (case e => exact rfl); intro t9 k9; (try dsimp only))
  k_with "execs cons Expr" => (refine' flat_expr ?_ ?i ?s; (case i => exact rfl); (case s => exact rfl); intro K9 hK9)
  k_with "execs cons Raise" => refine flat_raise ?_
  k_with "execs cons Continue" => refine flat_cont ?_
  k_with "spliced" => plain_pass; k_dflt (refine' args_ev (n := 6) ?F ?e ?_; (case F => k_asm); (case e => exact rfl); intro t9 k9; (try dsimp only [vals, List.cons_append, List.nil_append]))
  k_with "eval Call Name" => plain_pass; k_dflt (refine' callN_ev (n := 6) ?F ?X ?T ?f ?v ?w ?g ?e ?_ ?a ?b ?d; (case F => k_asm); (case e => exact rfl); (case b => exact rfl); (case X => k_asm); (case T => k_asm); (case a => exact rfl); (case f => k_is); (case v => boot_fast); (case w => exact rfl); (case g => decide); (case d => decide); intro t9 k9; (try dsimp only [vals]))
  k_with "eval Call Name" => plain_pass; k_dflt (refine' call_ev (n := 6) ?F ?X ?T ?f ?k ?e ?_ ?a ?b ?d; (case F => k_asm); (case e => exact rfl); (case b => exact rfl); (case X => k_asm); (case T => k_asm); (case a => exact rfl); (case f => k_is); (case k => k_is); (case d => decide); intro t9 k9; (try dsimp only [vals]))
  k_with "call ref" => ((with_reducible show wpAny _ _ (call (Value.ref 202) [Value.ref _, Value.int 6 _, Value.int 8 _]) _ _ _); (refine' regL68 _ _ _ _ _ _ ?hw ?hb _ _ _ _ _ _ _ _ _ _ _ _ _ _ _ _ _ _ ?k1 ?k2 ?k3 ?k4 ?km ?k5 ?kK ?kd ?ku ?_; (case k1 => k_asm); (case k2 => k_asm); (case k3 => k_asm); (case k4 => k_asm); (case km => first | exact List.Mem.head _ | k_mem | assumption); (case hw => assumption); (case hb => omega); (case k5 => k_asm); (case kK => first | exact rfl | assumption); (case kd => first | (dsimp only [Around.deeper]; omega) | ktr_room); (case ku => first | (dsimp only [Around.deeper]; omega) | ktr_units); intro T9 D9 us9 c9 t9 h9 k9 F9 N9 lD9 lT9 ln9 hI9; (have hz9 := IntsAre.length hI9); (rw [regGroups_len] at hz9); (try rw [KBw.ints_length] at hz9); (try dsimp only); (try k_fold)))
  k_with "call builtin:list.append" => ((with_reducible show wpAny _ _ (call (Value.builtin "list.append") [Value.ref _, Value.int _ _]) _ _ _); (refine' append_L ?k1 ?k2 ?k3 ?k4 ?k5 ?_; (case k1 => k_asm); (case k2 => k_asm); (case k3 => k_upd); (case k4 => assumption); (case k5 => first | omega | ((simp only [List.length_append, List.length_map, regGroups_len, KBw.ints_length, List.length_cons, List.length_nil]); omega)); intro h9 F9 N9 hI9; (try dsimp only)))
  k_with "call type:bytes" => refine stop ?_
  k_with "InvEndN" => refine stop ?_
  k_with "binaryOp Mod int int" => (refine mod_c ?k1 ?_; (case k1 => decide))
  k_with "call builtin:len" => (refine' len_ints_fit (News.isList (by k_asm) (by k_mem)) (by assumption) ?k1 ?_; (case k1 => omega))
  k_with "subscriptTail Name Name ref int" => ((refine' tab_item ?k1 ?k2 ?k3 ?k4 ?k5 ?_ ?k6; (case k1 => exact News.isList (by k_asm) (by kcf_m)); (case k2 => assumption); (case k3 => assumption); (case k4 => assumption); (case k5 => assumption); (case k6 => with_unfolding_all rfl); intro t9; (try dsimp only)))
  k_with "pyIter bytes" => refine stop ?_
  k_steps
  refine Stop.go ?_
  refine bytesFor [Str.ofString "pads"] [Str.ofString "places", Str.ofString "table", Str.ofString "strict"] (P64 T strict) rfl (by k_asm) (by k_asm) (by assumption) IntsAre.nil (as₀ := [(_, _)]) (by rfl) (kv := [_, _, _]) (by rfl) (P64.start T strict) ?_ ?_
  · intro pre post n t u as out vs nn h tk own hbs hn0 hn1 hlen hoff hI hP F1 N1
    obtain ⟨⟨pd, t1⟩, rfl⟩ := len1 hlen
    obtain ⟨pd', e, hD, hd0, hol, hd1⟩ := id hP
    simp only [List.map, List.cons.injEq, and_true] at e
    subst e
    have hpl : pre.length < 12 := by
      have h1 := congrArg List.length hbs
      rw [KBw.ints_length, List.length_append, List.length_cons] at h1
      omega
    simp only [ov, List.map, iv] at F1
    try k_fold
    refine hide_turn ?_; intro T9 hN9
    k_steps
    all_goals first
      | exact retV 0 hret (by k_asm) (by k_asm) (fun p hp => .tail _ (List.mem_append_left _ hp)) ((congrArg (fun r => resO r 0) (from64_cut hbs hD (step64_bad (by assumption) (by assumption)))).symm)
      | exact retV 0 hret (by k_asm) (by k_asm) (fun p hp => .tail _ (List.mem_append_left _ hp)) ((congrArg (fun r => resO r 0) (from64_cut hbs hD (step64_lateS (by assumption) (by assumption) (by omega) (by assumption)))).symm)
      | exact retV 0 hret (by k_asm) (by k_asm) (fun p hp => .tail _ (List.mem_append_left _ hp)) ((congrArg (fun r => resO r 0) (from64_cut hbs hD (step64_lateN (by assumption) (by assumption) (by omega) (by assumption)))).symm)
      | (refine Stop.go (outEndL [(_, _)] (by k_asm) (by k_asm) (by assumption) (by rfl) (by rfl) ?_)
         dsimp only [List.map]
         first
         | exact P64.next hD (step64_pad (by assumption)) (by omega) (by omega) (by omega)
         | exact P64.next hD (step64_skip (by assumption) (by assumption)) (by omega) (by omega) (by omega)
         | exact P64.next hD (step64_add (by assumption) (by assumption) (by omega)) (by omega) (by rw [List.length_append, List.length_singleton]; omega) (by omega))
  · intro u as out vs nn h tk hlen hI hP F1 N1
    obtain ⟨⟨pd, t1⟩, rfl⟩ := len1 hlen
    obtain ⟨pd', e, hD, hd0, hol, hd1⟩ := id hP
    simp only [List.map, List.cons.injEq, and_true] at e
    subst e
    rw [KBw.ints_length] at hol hd1
    simp only [ov, List.map, iv] at F1
    try k_fold
    k_steps
    all_goals first
      | exact retV 0 hret (by k_asm) (by k_asm) (fun p hp => .tail _ (.tail _ hp)) (by rw [from64_ok hD, show fin64 (out, pd) = some none from (by unfold fin64 lim64; dsimp only; (repeat' split) <;> first | rfl | (exfalso; omega))]; rfl)
      | exact retV 0 hret (by k_asm) (by k_asm) (fun p hp => .tail _ (.tail _ hp)) (by rw [from64_ok hD, show fin64 (out, pd) = none from (by unfold fin64 lim64; dsimp only; (repeat' split) <;> first | rfl | (exfalso; omega))]; rfl)
      | skip
    all_goals
      refine Stop.go (bytes_ofL (by k_asm) (by k_asm) (.tail _ (.head _)) rfl (by assumption) (fun v hv => groups_in hv) (by rw [regGroups_len]; omega) ?_)
      intro h8 t8 k8 F8 N8
      k_steps
      exact retV _ hret (by k_asm) (by k_asm) (fun p hp => .tail _ (.tail _ (.tail _ (.tail _ hp)))) (by rw [from64_ok hD, show fin64 (out, pd) = some (some (regGroups 6 8 out)) from (by unfold fin64 lim64; dsimp only; (repeat' split) <;> first | rfl | (exfalso; omega))]; rfl)
end
end

theorem reset29 : True := by
  w_top off
  k_with_none
  trivial
section
abbrev FS (outer : List Env) : List Addr := outer.filterMap (·.frame)
/-- what a def that may catch is asked: the ground may have turned -/
abbrev RetS (w : World) (p : Program) (loose : List Str) (mean : ExcName → Option Value) (mg mb : Str → Option Value) (A₀ : Around) (base : Heap) (outer : List Env) (g₀ : Heap) (L : Addr) (m : Str → Option Value) (news : List (Addr × Obj)) (s : Shared) (Q : Value → Shared → Prop) (R : Tok → Value) : Prop :=
  ∀ (t : Tok) (h₀' h' : Heap) (tk' : Nat), KtsTurn (FS outer) g₀ h₀' → Fr h₀' L h' m → News h₀' L h' news → Below A₀ base outer h₀' → (hd.heap_39 w.params).In h₀' → Top p loose mean mg mb h₀' → KtsDicts (FS outer) h₀' → Q (R t) { s with heap := h', toks := tk' }
abbrev ClaimS (prog : Program) (w : World) (p : Program) (loose : List Str) (mean : ExcName → Option Value) (mg mb : Str → Option Value) (f : Addr) (need : Nat) (vs : List Value) (R : Tok → Value) : Prop :=
  ∀ (dp un : Nat) (gd : Option (List Code)) (cn : Str) (cs : Scope) (a : Addr) (ccd : Value) (outer : List Env) (A₀ : Around) (base g₀ h₀ : Heap) (L : Addr) (m : Str → Option Value) (news : List (Addr × Obj)) (s : Shared) (Q E : Value → Shared → Prop),
    Below A₀ base outer h₀ → Fr h₀ L s.heap m → (hd.heap_39 w.params).In h₀ → News h₀ L s.heap news → Top p loose mean mg mb h₀ → (hd.heap_39 w.params).In base → Top p loose mean mg mb base → KtsDicts (FS outer) h₀ → KtsTurn (FS outer) g₀ h₀ → cs.kind = .function →
    dp + need < recursionLimit → un + 8 * need < cLine → RetS w p loose mean mg mb A₀ base outer g₀ L m news s Q R →
      wpAny (model prog w) (ktrTop dp un gd cn cs L a ccd [] outer) (call (.ref f) vs) Q E s
def toldR (k : Nat) (b c : Array UInt8) : Option (List Int) :=
  match k with
  | 0 => if allHex b = true then hexDec (KBw.bInts b) else none
  | 1 => if allHex (upped b) = true then hexDec (KBw.bInts (upped b)) else none
  | 2 => decOut false (KBw.bInts b)
  | 3 => decOut true (KBw.bInts b)
  | 4 => decOut false (KBw.bInts (trans (mkT c #[43, 47]) b))
  | 5 => decOut true (KBw.bInts (trans (mkT c #[43, 47]) b))
  | 6 => decOut false (KBw.bInts b)
  | _ => decOut false (KBw.bInts (trans (mkT #[45, 95] #[43, 47]) b))
theorem retS {w : World} {p : Program} {loose : List Str} {mean : ExcName → Option Value} {mg mb : Str → Option Value} {A₀ : Around} {base : Heap} {outer : List Env} {g₀ h₀' h' : Heap} {L : Addr} {m : Str → Option Value} {news : List (Addr × Obj)} {s : Shared} {Q : Value → Shared → Prop} {R : Tok → Value} {v : Value} {t : Tok} {tk' : Nat}
    (hret : RetS w p loose mean mg mb A₀ base outer g₀ L m news s Q R) (e : v = R t) (T : KtsTurn (FS outer) g₀ h₀') (F : Fr h₀' L h' m) (N : News h₀' L h' news) (B : Below A₀ base outer h₀') (X : (hd.heap_39 w.params).In h₀') (P : Top p loose mean mg mb h₀') (D : KtsDicts (FS outer) h₀') : Q v { s with heap := h', toks := tk' } := by
  subst e
  exact hret t h₀' h' tk' T F N B X P D
section
variable {prog : Program} {w : World} {p : Program} {loose : List Str} {mean : ExcName → Option Value} {mg mb : Str → Option Value}
theorem told0 (b c : Array UInt8) (tb tc tk : Tok) (hb : b.size ≤ 12) (hc : c.size = 2) : ClaimS prog w p loose mean mg mb 240 5 [.int 0 tk, .bytes b tb, .bytes c tc] (resV (toldR 0 b c)) := by
  dsimp only [ClaimS, RetS]
  intros
  rename_i hret
  refine wpAny_call ?_
  (refine' code_defS ?k1 ?k2 ?k3 ?k4 ?k5 ?XB ?TB ?D ?T0 ?kA ?k6 ?k7 ?k8 ?k9 ?kB ?_ ?cK ?c2 ?c3 ?c4 ?c5; (case kA => exact rfl); (case k2 => k_asm); (case k1 => k_asm); (case XB => assumption); (case TB => assumption); (case D => assumption); (case T0 => assumption); (case k3 => k_asm); (case k4 => k_asm); (case k5 => k_asm); (case k6 => k_is); (case k7 => k_is); (case k8 => first | (dsimp only [ktrTop]; omega) | ktr_room); (case k9 => first | exact binds_K (by k_in) rfl (by k_is) rfl rfl rfl | exact BindsTo.of_eq rfl); (case kB => exact locs rfl); (case cK => assumption); (case c2 => exact rfl); (case c3 => exact rfl); (case c4 => exact rfl); (case c5 => decide); k_whole; intro g1 L1 h1 FG1 F1 N1 B1 X1 T1 D1; (try dsimp only); (try k_lift B1); (try k_fold))
  k_with_none
  k_with "exec If" => (with_reducible refine wpAny_If ?_)
  k_with "isTrue Compare" => ((with_reducible show wpAny _ _ (isTrue (Expr.Compare (Expr.Name _ _) [CmpOp.Eq] [Expr.Constant (Const.int _) _ _] _) _ _) _ _ _); k_dflt (refine' test_eq ?F ?v ?_ ?a ?b ?d; (case F => k_asm); (case a => rfl); (case b => rfl); (case d => decide); (case v => rfl)); (try dsimp only))
  k_with "isTrue Compare" => ((with_reducible show wpAny _ _ (isTrue (Expr.Compare (Expr.Name _ _) [CmpOp.NotEq] [Expr.Constant (Const.int _) _ _] _) _ _) _ _ _); k_dflt (refine' test_ne ?F ?v ?_ ?a ?b ?d; (case F => k_asm); (case a => rfl); (case b => rfl); (case d => decide); (case v => rfl)); (try dsimp only))
  k_with "isTrue Compare" => ((with_reducible show wpAny _ _ (isTrue (Expr.Compare (Expr.Name _ _) [CmpOp.Lt] [Expr.Constant (Const.int _) _ _] _) _ _) _ _ _); k_dflt (refine' test_lt ?F ?v ?_ ?a ?b ?d; (case F => k_asm); (case a => rfl); (case b => rfl); (case d => decide); (case v => rfl)); (try dsimp only))
  k_with "isTrue Compare" => ((with_reducible show wpAny _ _ (isTrue (Expr.Compare (Expr.Name _ _) [CmpOp.LtE] [Expr.Constant (Const.int _) _ _] _) _ _) _ _ _); k_dflt (refine' test_le ?F ?v ?_ ?a ?b ?d; (case F => k_asm); (case a => rfl); (case b => rfl); (case d => decide); (case v => rfl)); (try dsimp only))
  k_with "isTrue Compare" => ((with_reducible show wpAny _ _ (isTrue (Expr.Compare (Expr.Name _ _) [CmpOp.GtE] [Expr.Constant (Const.int _) _ _] _) _ _) _ _ _); k_dflt (refine' test_ge ?F ?v ?_ ?a ?b ?d; (case F => k_asm); (case a => rfl); (case b => rfl); (case d => decide); (case v => rfl)); (try dsimp only))
  k_with "Thn" => first | (refine hK9 _ _ ?_; (try clear hK9); (try dsimp only)) | (refine hK9 _ ?_; (try clear hK9); (try dsimp only))
  k_with "Rtn" => (refine hR9 _ _ ?_)
  k_with "Trn" => (refine hN9 _ _ ?_; (try dsimp only))
  k_with "ThB" => refine thb_ite ?_
  k_with "ThB true" => (refine hT9 _ ?_; (try clear hT9 hF9); (try dsimp only [List.cons_append, List.nil_append, List.append_nil]))
  k_with "ThB false" => (refine hF9 _ ?_; (try clear hT9 hF9); (try dsimp only [List.cons_append, List.nil_append, List.append_nil]))
  k_with "execs cons If" => (refine flat_if ?_; intro K9 hT9 hF9)
  k_with "execs cons If" => k_dflt ((first | (refine' if_pb (lit := false) (n := 6) ?F ?c ?_ ?_; (case F => k_asm); (case c => exact rfl)) | (refine' if_p (lit := false) (n := 6) ?F ?c ?_ ?_; (case F => k_asm); (case c => exact rfl))); (all_goals (intro k9 hb9; first | (exfalso; omega) | dsimp only [List.cons_append, List.nil_append, List.append_nil] | skip)))
  k_with "execs cons If" => k_dflt ((first | (refine' if_T (lit := true) (n := 6) ?F ?c ?_; (case F => k_asm); (case c => exact rfl)) | (refine' if_F (lit := true) (n := 6) ?F ?c ?_; (case F => k_asm); (case c => exact rfl))); intro k9; (try dsimp only [List.cons_append, List.nil_append, List.append_nil]))
  k_with "execs cons If" => k_dflt (refine' if_p (lit := true) (n := 6) ?F ?c ?_ ?_; (case F => k_asm); (case c => exact rfl); (all_goals (intro k9 hb9; first | (exfalso; omega) | dsimp only [List.cons_append, List.nil_append, List.append_nil] | skip)))
  k_with "execs cons Assign" => ((fail_if_success (with_reducible show wpAny _ _ (execs (Stmt.Assign _ (Expr.ListComp _ _ _ _) _ :: _) _) _ _ _)); refine' flat_asg ?_ ?s; (case s => exact rfl); intro K9 hK9)
  k_with "execs cons Assign" => k_dflt (refine' asg_ev (n := 6) ?F ?N ?L ?x ?s ?e ?_; (case F => k_asm); (case N => k_asm); (case L => exact rfl); (case x => exact rfl); (case s => exact rfl); (case e => exact rfl); intro t9 k9 h' m9 F' N'; (try dsimp only); (try k_sweep))
  k_with "storeName" => k_dflt (refine' store_ev ?F ?N ?L ?x ?_; (case F => k_asm); (case N => k_asm); (case L => exact rfl); (case x => exact rfl); intro h' k9 m9 F' N'; (try dsimp only); (try k_sweep))
  k_with "execs cons Return" => (refine flat_ret ?_; intro K9 hK9)
  k_with "execs cons Return" => k_dflt (refine' ret_ev (n := 6) ?F ?e ?_; (case F => k_asm); (case e => exact rfl); intro t9 k9; (try dsimp only))
  k_with "execs cons Expr" => (refine' flat_expr ?_ ?i ?s; (case i => exact rfl); (case s => exact rfl); intro K9 hK9)
  k_with "execs cons Raise" => refine flat_raise ?_
  k_with "execs cons Continue" => refine flat_cont ?_
  k_with "spliced" => plain_pass; k_dflt (refine' args_ev (n := 6) ?F ?e ?_; (case F => k_asm); (case e => exact rfl); intro t9 k9; (try dsimp only [vals, List.cons_append, List.nil_append]))
  k_with "eval Call Name" => plain_pass; k_dflt (refine' callN_ev (n := 6) ?F ?X ?T ?f ?v ?w ?g ?e ?_ ?a ?b ?d; (case F => k_asm); (case e => exact rfl); (case b => exact rfl); (case X => k_asm); (case T => k_asm); (case a => exact rfl); (case f => k_is); (case v => boot_fast); (case w => exact rfl); (case g => decide); (case d => decide); intro t9 k9; (try dsimp only [vals]))
  k_with "eval Call Name" => plain_pass; k_dflt (refine' call_ev (n := 6) ?F ?X ?T ?f ?k ?e ?_ ?a ?b ?d; (case F => k_asm); (case e => exact rfl); (case b => exact rfl); (case X => k_asm); (case T => k_asm); (case a => exact rfl); (case f => k_is); (case k => k_is); (case d => decide); intro t9 k9; (try dsimp only [vals]))
  k_with "call ref" => ((with_reducible show wpAny _ _ (call (Value.ref 147) [Value.bytes _ _]) _ _ _); (refine' b64dec _ _ (by first | assumption | (rw [trans_size]; assumption)) _ _ _ _ _ _ _ _ _ _ _ _ _ _ _ _ _ ?k1 ?k2 ?k3 ?k4 ?k5 ?kK ?kd ?ku ?_ ?_; (case k1 => k_asm); (case k2 => k_asm); (case k3 => k_asm); (case k4 => k_asm); (case k5 => k_asm); (case kK => first | exact rfl | assumption); (case kd => first | (dsimp only [Around.deeper]; omega) | ktr_room); (case ku => first | (dsimp only [Around.deeper]; omega) | ktr_units)); (all_goals first | (intro r9 hr9; obtain ⟨l9, hl9, hr9⟩ := Option.map_eq_some_iff.mp hr9; subst hr9; intro t9 h9 tk9 F9 N9; (try dsimp only); (try k_fold)) | (intro hN9 e9 t9 vs9 G9 h9 tk9 FG9 RS9 US9; (try dsimp only))))
  k_with "call ref" => ((with_reducible show wpAny _ _ (call (Value.ref 147) [Value.bytes _ _] _) _ _ _); (refine' b64decV _ _ (by first | assumption | (rw [trans_size]; assumption)) _ _ _ _ _ _ _ _ _ _ _ _ _ _ _ _ _ ?k1 ?k2 ?k3 ?k4 ?k5 ?kK ?kd ?ku ?_ ?_; (case k1 => k_asm); (case k2 => k_asm); (case k3 => k_asm); (case k4 => k_asm); (case k5 => k_asm); (case kK => first | exact rfl | assumption); (case kd => first | (dsimp only [Around.deeper]; omega) | ktr_room); (case ku => first | (dsimp only [Around.deeper]; omega) | ktr_units)); (all_goals first | (intro r9 hr9; obtain ⟨l9, hl9, hr9⟩ := Option.map_eq_some_iff.mp hr9; subst hr9; intro t9 h9 tk9 F9 N9; (try dsimp only); (try k_fold)) | (intro hN9 e9 t9 vs9 G9 h9 tk9 FG9 RS9 US9; (try dsimp only))))
  k_with "call ref" => ((with_reducible show wpAny _ _ (call (Value.ref 147) [Value.bytes _ _, Value.bytes _ _]) _ _ _); (refine' b64decP _ _ _ _ (by assumption) (by assumption) _ _ _ _ _ _ _ _ _ _ _ _ _ _ _ _ _ ?k1 ?k2 ?k3 ?k4 ?k5 ?kK ?kd ?ku ?_ ?_; (case k1 => k_asm); (case k2 => k_asm); (case k3 => k_asm); (case k4 => k_asm); (case k5 => k_asm); (case kK => first | exact rfl | assumption); (case kd => first | (dsimp only [Around.deeper]; omega) | ktr_room); (case ku => first | (dsimp only [Around.deeper]; omega) | ktr_units)); (all_goals first | (intro r9 hr9; obtain ⟨l9, hl9, hr9⟩ := Option.map_eq_some_iff.mp hr9; subst hr9; intro t9 h9 tk9 F9 N9; (try dsimp only); (try k_fold)) | (intro hN9 e9 t9 vs9 G9 h9 tk9 FG9 RS9 US9; (try dsimp only))))
  k_with "call ref" => ((with_reducible show wpAny _ _ (call (Value.ref 147) [Value.bytes _ _, Value.bytes _ _, Value.bool true]) _ _ _); (refine' b64decPV _ _ _ _ (by assumption) (by assumption) _ _ _ _ _ _ _ _ _ _ _ _ _ _ _ _ _ ?k1 ?k2 ?k3 ?k4 ?k5 ?kK ?kd ?ku ?_ ?_; (case k1 => k_asm); (case k2 => k_asm); (case k3 => k_asm); (case k4 => k_asm); (case k5 => k_asm); (case kK => first | exact rfl | assumption); (case kd => first | (dsimp only [Around.deeper]; omega) | ktr_room); (case ku => first | (dsimp only [Around.deeper]; omega) | ktr_units)); (all_goals first | (intro r9 hr9; obtain ⟨l9, hl9, hr9⟩ := Option.map_eq_some_iff.mp hr9; subst hr9; intro t9 h9 tk9 F9 N9; (try dsimp only); (try k_fold)) | (intro hN9 e9 t9 vs9 G9 h9 tk9 FG9 RS9 US9; (try dsimp only))))
  k_with "call ref" => ((with_reducible show wpAny _ _ (call (Value.ref 161) [Value.bytes _ _]) _ _ _); (refine' stddec _ _ (by assumption) _ _ _ _ _ _ _ _ _ _ _ _ _ _ _ _ _ ?k1 ?k2 ?k3 ?k4 ?k5 ?kK ?kd ?ku ?_ ?_; (case k1 => k_asm); (case k2 => k_asm); (case k3 => k_asm); (case k4 => k_asm); (case k5 => k_asm); (case kK => first | exact rfl | assumption); (case kd => first | (dsimp only [Around.deeper]; omega) | ktr_room); (case ku => first | (dsimp only [Around.deeper]; omega) | ktr_units)); (all_goals first | (intro r9 hr9; obtain ⟨l9, hl9, hr9⟩ := Option.map_eq_some_iff.mp hr9; subst hr9; intro t9 h9 tk9 F9 N9; (try dsimp only); (try k_fold)) | (intro hN9 e9 t9 vs9 G9 h9 tk9 FG9 RS9 US9; (try dsimp only))))
  k_with "call ref" => ((with_reducible show wpAny _ _ (call (Value.ref 175) [Value.bytes _ _]) _ _ _); (refine' urldec _ _ (by assumption) _ _ _ _ _ _ _ _ _ _ _ _ _ _ _ _ _ ?k1 ?k2 ?k3 ?k4 ?k5 ?kK ?kd ?ku ?_ ?_; (case k1 => k_asm); (case k2 => k_asm); (case k3 => k_asm); (case k4 => k_asm); (case k5 => k_asm); (case kK => first | exact rfl | assumption); (case kd => first | (dsimp only [Around.deeper]; omega) | ktr_room); (case ku => first | (dsimp only [Around.deeper]; omega) | ktr_units)); (all_goals first | (intro r9 hr9; obtain ⟨l9, hl9, hr9⟩ := Option.map_eq_some_iff.mp hr9; subst hr9; intro t9 h9 tk9 F9 N9; (try dsimp only); (try k_fold)) | (intro hN9 e9 t9 vs9 G9 h9 tk9 FG9 RS9 US9; (try dsimp only))))
  k_with "call ref" => ((with_reducible show wpAny _ _ (call (Value.ref 190) [Value.bytes _ _]) _ _ _); (refine' b16dec _ _ (by assumption) _ _ _ _ _ _ _ _ _ _ _ _ _ _ _ _ _ ?k1 ?k2 ?k3 ?k4 ?k5 ?kK ?kd ?ku ?_ ?_; (case k1 => k_asm); (case k2 => k_asm); (case k3 => k_asm); (case k4 => k_asm); (case k5 => k_asm); (case kK => first | exact rfl | assumption); (case kd => first | (dsimp only [Around.deeper]; omega) | ktr_room); (case ku => first | (dsimp only [Around.deeper]; omega) | ktr_units)); (all_goals first | (intro r9 hr9; obtain ⟨l9, hl9, hr9⟩ := Option.map_eq_some_iff.mp hr9; subst hr9; intro t9 h9 tk9 F9 N9; (try dsimp only); (try k_fold)) | (intro hN9 e9 t9 vs9 G9 h9 tk9 FG9 RS9 US9; (try dsimp only))))
  k_with "call ref" => ((with_reducible show wpAny _ _ (call (Value.ref 190) [Value.bytes _ _, Value.bool true]) _ _ _); (refine' b16decF _ _ (by assumption) _ _ _ _ _ _ _ _ _ _ _ _ _ _ _ _ _ ?k1 ?k2 ?k3 ?k4 ?k5 ?kK ?kd ?ku ?_ ?_; (case k1 => k_asm); (case k2 => k_asm); (case k3 => k_asm); (case k4 => k_asm); (case k5 => k_asm); (case kK => first | exact rfl | assumption); (case kd => first | (dsimp only [Around.deeper]; omega) | ktr_room); (case ku => first | (dsimp only [Around.deeper]; omega) | ktr_units)); (all_goals first | (intro r9 hr9; obtain ⟨l9, hl9, hr9⟩ := Option.map_eq_some_iff.mp hr9; subst hr9; intro t9 h9 tk9 F9 N9; (try dsimp only); (try k_fold)) | (intro hN9 e9 t9 vs9 G9 h9 tk9 FG9 RS9 US9; (try dsimp only))))
  k_steps
  · exact retS hret (by rw [show toldR 0 b c = some _ from by assumption]; exact rfl) (by assumption) (by assumption) (by assumption) (by assumption) (by assumption) (by assumption) (by assumption)
  · exact retS (t := 0) hret (by rw [show toldR 0 b c = none from Option.map_eq_none_iff.mp (by assumption)]; exact rfl) (by assumption) (by assumption) (by assumption) (by assumption) (by assumption) (by assumption) (by assumption)
theorem told1 (b c : Array UInt8) (tb tc tk : Tok) (hb : b.size ≤ 12) (hc : c.size = 2) : ClaimS prog w p loose mean mg mb 240 5 [.int 1 tk, .bytes b tb, .bytes c tc] (resV (toldR 1 b c)) := by
  dsimp only [ClaimS, RetS]
  intros
  rename_i hret
  refine wpAny_call ?_
  (refine' code_defS ?k1 ?k2 ?k3 ?k4 ?k5 ?XB ?TB ?D ?T0 ?kA ?k6 ?k7 ?k8 ?k9 ?kB ?_ ?cK ?c2 ?c3 ?c4 ?c5; (case kA => exact rfl); (case k2 => k_asm); (case k1 => k_asm); (case XB => assumption); (case TB => assumption); (case D => assumption); (case T0 => assumption); (case k3 => k_asm); (case k4 => k_asm); (case k5 => k_asm); (case k6 => k_is); (case k7 => k_is); (case k8 => first | (dsimp only [ktrTop]; omega) | ktr_room); (case k9 => first | exact binds_K (by k_in) rfl (by k_is) rfl rfl rfl | exact BindsTo.of_eq rfl); (case kB => exact locs rfl); (case cK => assumption); (case c2 => exact rfl); (case c3 => exact rfl); (case c4 => exact rfl); (case c5 => decide); k_whole; intro g1 L1 h1 FG1 F1 N1 B1 X1 T1 D1; (try dsimp only); (try k_lift B1); (try k_fold))
  k_with_none
  k_with "exec If" => (with_reducible refine wpAny_If ?_)
  k_with "isTrue Compare" => ((with_reducible show wpAny _ _ (isTrue (Expr.Compare (Expr.Name _ _) [CmpOp.Eq] [Expr.Constant (Const.int _) _ _] _) _ _) _ _ _); k_dflt (refine' test_eq ?F ?v ?_ ?a ?b ?d; (case F => k_asm); (case a => rfl); (case b => rfl); (case d => decide); (case v => rfl)); (try dsimp only))
  k_with "isTrue Compare" => ((with_reducible show wpAny _ _ (isTrue (Expr.Compare (Expr.Name _ _) [CmpOp.NotEq] [Expr.Constant (Const.int _) _ _] _) _ _) _ _ _); k_dflt (refine' test_ne ?F ?v ?_ ?a ?b ?d; (case F => k_asm); (case a => rfl); (case b => rfl); (case d => decide); (case v => rfl)); (try dsimp only))
  k_with "isTrue Compare" => ((with_reducible show wpAny _ _ (isTrue (Expr.Compare (Expr.Name _ _) [CmpOp.Lt] [Expr.Constant (Const.int _) _ _] _) _ _) _ _ _); k_dflt (refine' test_lt ?F ?v ?_ ?a ?b ?d; (case F => k_asm); (case a => rfl); (case b => rfl); (case d => decide); (case v => rfl)); (try dsimp only))
  k_with "isTrue Compare" => ((with_reducible show wpAny _ _ (isTrue (Expr.Compare (Expr.Name _ _) [CmpOp.LtE] [Expr.Constant (Const.int _) _ _] _) _ _) _ _ _); k_dflt (refine' test_le ?F ?v ?_ ?a ?b ?d; (case F => k_asm); (case a => rfl); (case b => rfl); (case d => decide); (case v => rfl)); (try dsimp only))
  k_with "isTrue Compare" => ((with_reducible show wpAny _ _ (isTrue (Expr.Compare (Expr.Name _ _) [CmpOp.GtE] [Expr.Constant (Const.int _) _ _] _) _ _) _ _ _); k_dflt (refine' test_ge ?F ?v ?_ ?a ?b ?d; (case F => k_asm); (case a => rfl); (case b => rfl); (case d => decide); (case v => rfl)); (try dsimp only))
  k_with "Thn" => first | (refine hK9 _ _ ?_; (try clear hK9); (try dsimp only)) | (refine hK9 _ ?_; (try clear hK9); (try dsimp only))
  k_with "Rtn" => (refine hR9 _ _ ?_)
  k_with "Trn" => (refine hN9 _ _ ?_; (try dsimp only))
  k_with "ThB" => refine thb_ite ?_
  k_with "ThB true" => (refine hT9 _ ?_; (try clear hT9 hF9); (try dsimp only [List.cons_append, List.nil_append, List.append_nil]))
  k_with "ThB false" => (refine hF9 _ ?_; (try clear hT9 hF9); (try dsimp only [List.cons_append, List.nil_append, List.append_nil]))
  k_with "execs cons If" => (refine flat_if ?_; intro K9 hT9 hF9)
  k_with "execs cons If" => k_dflt ((first | (refine' if_pb (lit := false) (n := 6) ?F ?c ?_ ?_; (case F => k_asm); (case c => exact rfl)) | (refine' if_p (lit := false) (n := 6) ?F ?c ?_ ?_; (case F => k_asm); (case c => exact rfl))); (all_goals (intro k9 hb9; first | (exfalso; omega) | dsimp only [List.cons_append, List.nil_append, List.append_nil] | skip)))
  k_with "execs cons If" => k_dflt ((first | (refine' if_T (lit := true) (n := 6) ?F ?c ?_; (case F => k_asm); (case c => exact rfl)) | (refine' if_F (lit := true) (n := 6) ?F ?c ?_; (case F => k_asm); (case c => exact rfl))); intro k9; (try dsimp only [List.cons_append, List.nil_append, List.append_nil]))
  k_with "execs cons If" => k_dflt (refine' if_p (lit := true) (n := 6) ?F ?c ?_ ?_; (case F => k_asm); (case c => exact rfl); (all_goals (intro k9 hb9; first | (exfalso; omega) | dsimp only [List.cons_append, List.nil_append, List.append_nil] | skip)))
  k_with "execs cons Assign" => ((fail_if_success (with_reducible show wpAny _ _ (execs (Stmt.Assign _ (Expr.ListComp _ _ _ _) _ :: _) _) _ _ _)); refine' flat_asg ?_ ?s; (case s => exact rfl); intro K9 hK9)
  k_with "execs cons Assign" => k_dflt (refine' asg_ev (n := 6) ?F ?N ?L ?x ?s ?e ?_; (case F => k_asm); (case N => k_asm); (case L => exact rfl); (case x => exact rfl); (case s => exact rfl); (case e => exact rfl); intro t9 k9 h' m9 F' N'; (try dsimp only); (try k_sweep))
  k_with "storeName" => k_dflt (refine' store_ev ?F ?N ?L ?x ?_; (case F => k_asm); (case N => k_asm); (case L => exact rfl); (case x => exact rfl); intro h' k9 m9 F' N'; (try dsimp only); (try k_sweep))
  k_with "execs cons Return" => (refine flat_ret ?_; intro K9 hK9)
  k_with "execs cons Return" => k_dflt (refine' ret_ev (n := 6) ?F ?e ?_; (case F => k_asm); (case e => exact rfl); intro t9 k9; (try dsimp only))
  k_with "execs cons Expr" => (refine' flat_expr ?_ ?i ?s; (case i => exact rfl); (case s => exact rfl); intro K9 hK9)
  k_with "execs cons Raise" => refine flat_raise ?_
  k_with "execs cons Continue" => refine flat_cont ?_
  k_with "spliced" => plain_pass; k_dflt (refine' args_ev (n := 6) ?F ?e ?_; (case F => k_asm); (case e => exact rfl); intro t9 k9; (try dsimp only [vals, List.cons_append, List.nil_append]))
  k_with "eval Call Name" => plain_pass; k_dflt (refine' callN_ev (n := 6) ?F ?X ?T ?f ?v ?w ?g ?e ?_ ?a ?b ?d; (case F => k_asm); (case e => exact rfl); (case b => exact rfl); (case X => k_asm); (case T => k_asm); (case a => exact rfl); (case f => k_is); (case v => boot_fast); (case w => exact rfl); (case g => decide); (case d => decide); intro t9 k9; (try dsimp only [vals]))
  k_with "eval Call Name" => plain_pass; k_dflt (refine' call_ev (n := 6) ?F ?X ?T ?f ?k ?e ?_ ?a ?b ?d; (case F => k_asm); (case e => exact rfl); (case b => exact rfl); (case X => k_asm); (case T => k_asm); (case a => exact rfl); (case f => k_is); (case k => k_is); (case d => decide); intro t9 k9; (try dsimp only [vals]))
  k_with "call ref" => ((with_reducible show wpAny _ _ (call (Value.ref 147) [Value.bytes _ _]) _ _ _); (refine' b64dec _ _ (by first | assumption | (rw [trans_size]; assumption)) _ _ _ _ _ _ _ _ _ _ _ _ _ _ _ _ _ ?k1 ?k2 ?k3 ?k4 ?k5 ?kK ?kd ?ku ?_ ?_; (case k1 => k_asm); (case k2 => k_asm); (case k3 => k_asm); (case k4 => k_asm); (case k5 => k_asm); (case kK => first | exact rfl | assumption); (case kd => first | (dsimp only [Around.deeper]; omega) | ktr_room); (case ku => first | (dsimp only [Around.deeper]; omega) | ktr_units)); (all_goals first | (intro r9 hr9; obtain ⟨l9, hl9, hr9⟩ := Option.map_eq_some_iff.mp hr9; subst hr9; intro t9 h9 tk9 F9 N9; (try dsimp only); (try k_fold)) | (intro hN9 e9 t9 vs9 G9 h9 tk9 FG9 RS9 US9; (try dsimp only))))
  k_with "call ref" => ((with_reducible show wpAny _ _ (call (Value.ref 147) [Value.bytes _ _] _) _ _ _); (refine' b64decV _ _ (by first | assumption | (rw [trans_size]; assumption)) _ _ _ _ _ _ _ _ _ _ _ _ _ _ _ _ _ ?k1 ?k2 ?k3 ?k4 ?k5 ?kK ?kd ?ku ?_ ?_; (case k1 => k_asm); (case k2 => k_asm); (case k3 => k_asm); (case k4 => k_asm); (case k5 => k_asm); (case kK => first | exact rfl | assumption); (case kd => first | (dsimp only [Around.deeper]; omega) | ktr_room); (case ku => first | (dsimp only [Around.deeper]; omega) | ktr_units)); (all_goals first | (intro r9 hr9; obtain ⟨l9, hl9, hr9⟩ := Option.map_eq_some_iff.mp hr9; subst hr9; intro t9 h9 tk9 F9 N9; (try dsimp only); (try k_fold)) | (intro hN9 e9 t9 vs9 G9 h9 tk9 FG9 RS9 US9; (try dsimp only))))
  k_with "call ref" => ((with_reducible show wpAny _ _ (call (Value.ref 147) [Value.bytes _ _, Value.bytes _ _]) _ _ _); (refine' b64decP _ _ _ _ (by assumption) (by assumption) _ _ _ _ _ _ _ _ _ _ _ _ _ _ _ _ _ ?k1 ?k2 ?k3 ?k4 ?k5 ?kK ?kd ?ku ?_ ?_; (case k1 => k_asm); (case k2 => k_asm); (case k3 => k_asm); (case k4 => k_asm); (case k5 => k_asm); (case kK => first | exact rfl | assumption); (case kd => first | (dsimp only [Around.deeper]; omega) | ktr_room); (case ku => first | (dsimp only [Around.deeper]; omega) | ktr_units)); (all_goals first | (intro r9 hr9; obtain ⟨l9, hl9, hr9⟩ := Option.map_eq_some_iff.mp hr9; subst hr9; intro t9 h9 tk9 F9 N9; (try dsimp only); (try k_fold)) | (intro hN9 e9 t9 vs9 G9 h9 tk9 FG9 RS9 US9; (try dsimp only))))
  k_with "call ref" => ((with_reducible show wpAny _ _ (call (Value.ref 147) [Value.bytes _ _, Value.bytes _ _, Value.bool true]) _ _ _); (refine' b64decPV _ _ _ _ (by assumption) (by assumption) _ _ _ _ _ _ _ _ _ _ _ _ _ _ _ _ _ ?k1 ?k2 ?k3 ?k4 ?k5 ?kK ?kd ?ku ?_ ?_; (case k1 => k_asm); (case k2 => k_asm); (case k3 => k_asm); (case k4 => k_asm); (case k5 => k_asm); (case kK => first | exact rfl | assumption); (case kd => first | (dsimp only [Around.deeper]; omega) | ktr_room); (case ku => first | (dsimp only [Around.deeper]; omega) | ktr_units)); (all_goals first | (intro r9 hr9; obtain ⟨l9, hl9, hr9⟩ := Option.map_eq_some_iff.mp hr9; subst hr9; intro t9 h9 tk9 F9 N9; (try dsimp only); (try k_fold)) | (intro hN9 e9 t9 vs9 G9 h9 tk9 FG9 RS9 US9; (try dsimp only))))
  k_with "call ref" => ((with_reducible show wpAny _ _ (call (Value.ref 161) [Value.bytes _ _]) _ _ _); (refine' stddec _ _ (by assumption) _ _ _ _ _ _ _ _ _ _ _ _ _ _ _ _ _ ?k1 ?k2 ?k3 ?k4 ?k5 ?kK ?kd ?ku ?_ ?_; (case k1 => k_asm); (case k2 => k_asm); (case k3 => k_asm); (case k4 => k_asm); (case k5 => k_asm); (case kK => first | exact rfl | assumption); (case kd => first | (dsimp only [Around.deeper]; omega) | ktr_room); (case ku => first | (dsimp only [Around.deeper]; omega) | ktr_units)); (all_goals first | (intro r9 hr9; obtain ⟨l9, hl9, hr9⟩ := Option.map_eq_some_iff.mp hr9; subst hr9; intro t9 h9 tk9 F9 N9; (try dsimp only); (try k_fold)) | (intro hN9 e9 t9 vs9 G9 h9 tk9 FG9 RS9 US9; (try dsimp only))))
  k_with "call ref" => ((with_reducible show wpAny _ _ (call (Value.ref 175) [Value.bytes _ _]) _ _ _); (refine' urldec _ _ (by assumption) _ _ _ _ _ _ _ _ _ _ _ _ _ _ _ _ _ ?k1 ?k2 ?k3 ?k4 ?k5 ?kK ?kd ?ku ?_ ?_; (case k1 => k_asm); (case k2 => k_asm); (case k3 => k_asm); (case k4 => k_asm); (case k5 => k_asm); (case kK => first | exact rfl | assumption); (case kd => first | (dsimp only [Around.deeper]; omega) | ktr_room); (case ku => first | (dsimp only [Around.deeper]; omega) | ktr_units)); (all_goals first | (intro r9 hr9; obtain ⟨l9, hl9, hr9⟩ := Option.map_eq_some_iff.mp hr9; subst hr9; intro t9 h9 tk9 F9 N9; (try dsimp only); (try k_fold)) | (intro hN9 e9 t9 vs9 G9 h9 tk9 FG9 RS9 US9; (try dsimp only))))
  k_with "call ref" => ((with_reducible show wpAny _ _ (call (Value.ref 190) [Value.bytes _ _]) _ _ _); (refine' b16dec _ _ (by assumption) _ _ _ _ _ _ _ _ _ _ _ _ _ _ _ _ _ ?k1 ?k2 ?k3 ?k4 ?k5 ?kK ?kd ?ku ?_ ?_; (case k1 => k_asm); (case k2 => k_asm); (case k3 => k_asm); (case k4 => k_asm); (case k5 => k_asm); (case kK => first | exact rfl | assumption); (case kd => first | (dsimp only [Around.deeper]; omega) | ktr_room); (case ku => first | (dsimp only [Around.deeper]; omega) | ktr_units)); (all_goals first | (intro r9 hr9; obtain ⟨l9, hl9, hr9⟩ := Option.map_eq_some_iff.mp hr9; subst hr9; intro t9 h9 tk9 F9 N9; (try dsimp only); (try k_fold)) | (intro hN9 e9 t9 vs9 G9 h9 tk9 FG9 RS9 US9; (try dsimp only))))
  k_with "call ref" => ((with_reducible show wpAny _ _ (call (Value.ref 190) [Value.bytes _ _, Value.bool true]) _ _ _); (refine' b16decF _ _ (by assumption) _ _ _ _ _ _ _ _ _ _ _ _ _ _ _ _ _ ?k1 ?k2 ?k3 ?k4 ?k5 ?kK ?kd ?ku ?_ ?_; (case k1 => k_asm); (case k2 => k_asm); (case k3 => k_asm); (case k4 => k_asm); (case k5 => k_asm); (case kK => first | exact rfl | assumption); (case kd => first | (dsimp only [Around.deeper]; omega) | ktr_room); (case ku => first | (dsimp only [Around.deeper]; omega) | ktr_units)); (all_goals first | (intro r9 hr9; obtain ⟨l9, hl9, hr9⟩ := Option.map_eq_some_iff.mp hr9; subst hr9; intro t9 h9 tk9 F9 N9; (try dsimp only); (try k_fold)) | (intro hN9 e9 t9 vs9 G9 h9 tk9 FG9 RS9 US9; (try dsimp only))))
  k_steps
  · exact retS hret (by rw [show toldR 1 b c = some _ from by assumption]; exact rfl) (by assumption) (by assumption) (by assumption) (by assumption) (by assumption) (by assumption) (by assumption)
  · exact retS (t := 0) hret (by rw [show toldR 1 b c = none from Option.map_eq_none_iff.mp (by assumption)]; exact rfl) (by assumption) (by assumption) (by assumption) (by assumption) (by assumption) (by assumption) (by assumption)
theorem told2 (b c : Array UInt8) (tb tc tk : Tok) (hb : b.size ≤ 12) (hc : c.size = 2) : ClaimS prog w p loose mean mg mb 240 5 [.int 2 tk, .bytes b tb, .bytes c tc] (resV (toldR 2 b c)) := by
  dsimp only [ClaimS, RetS]
  intros
  rename_i hret
  refine wpAny_call ?_
  (refine' code_defS ?k1 ?k2 ?k3 ?k4 ?k5 ?XB ?TB ?D ?T0 ?kA ?k6 ?k7 ?k8 ?k9 ?kB ?_ ?cK ?c2 ?c3 ?c4 ?c5; (case kA => exact rfl); (case k2 => k_asm); (case k1 => k_asm); (case XB => assumption); (case TB => assumption); (case D => assumption); (case T0 => assumption); (case k3 => k_asm); (case k4 => k_asm); (case k5 => k_asm); (case k6 => k_is); (case k7 => k_is); (case k8 => first | (dsimp only [ktrTop]; omega) | ktr_room); (case k9 => first | exact binds_K (by k_in) rfl (by k_is) rfl rfl rfl | exact BindsTo.of_eq rfl); (case kB => exact locs rfl); (case cK => assumption); (case c2 => exact rfl); (case c3 => exact rfl); (case c4 => exact rfl); (case c5 => decide); k_whole; intro g1 L1 h1 FG1 F1 N1 B1 X1 T1 D1; (try dsimp only); (try k_lift B1); (try k_fold))
  k_with_none
  k_with "exec If" => (with_reducible refine wpAny_If ?_)
  k_with "isTrue Compare" => ((with_reducible show wpAny _ _ (isTrue (Expr.Compare (Expr.Name _ _) [CmpOp.Eq] [Expr.Constant (Const.int _) _ _] _) _ _) _ _ _); k_dflt (refine' test_eq ?F ?v ?_ ?a ?b ?d; (case F => k_asm); (case a => rfl); (case b => rfl); (case d => decide); (case v => rfl)); (try dsimp only))
  k_with "isTrue Compare" => ((with_reducible show wpAny _ _ (isTrue (Expr.Compare (Expr.Name _ _) [CmpOp.NotEq] [Expr.Constant (Const.int _) _ _] _) _ _) _ _ _); k_dflt (refine' test_ne ?F ?v ?_ ?a ?b ?d; (case F => k_asm); (case a => rfl); (case b => rfl); (case d => decide); (case v => rfl)); (try dsimp only))
  k_with "isTrue Compare" => ((with_reducible show wpAny _ _ (isTrue (Expr.Compare (Expr.Name _ _) [CmpOp.Lt] [Expr.Constant (Const.int _) _ _] _) _ _) _ _ _); k_dflt (refine' test_lt ?F ?v ?_ ?a ?b ?d; (case F => k_asm); (case a => rfl); (case b => rfl); (case d => decide); (case v => rfl)); (try dsimp only))
  k_with "isTrue Compare" => ((with_reducible show wpAny _ _ (isTrue (Expr.Compare (Expr.Name _ _) [CmpOp.LtE] [Expr.Constant (Const.int _) _ _] _) _ _) _ _ _); k_dflt (refine' test_le ?F ?v ?_ ?a ?b ?d; (case F => k_asm); (case a => rfl); (case b => rfl); (case d => decide); (case v => rfl)); (try dsimp only))
  k_with "isTrue Compare" => ((with_reducible show wpAny _ _ (isTrue (Expr.Compare (Expr.Name _ _) [CmpOp.GtE] [Expr.Constant (Const.int _) _ _] _) _ _) _ _ _); k_dflt (refine' test_ge ?F ?v ?_ ?a ?b ?d; (case F => k_asm); (case a => rfl); (case b => rfl); (case d => decide); (case v => rfl)); (try dsimp only))
  k_with "Thn" => first | (refine hK9 _ _ ?_; (try clear hK9); (try dsimp only)) | (refine hK9 _ ?_; (try clear hK9); (try dsimp only))
  k_with "Rtn" => (refine hR9 _ _ ?_)
  k_with "Trn" => (refine hN9 _ _ ?_; (try dsimp only))
  k_with "ThB" => refine thb_ite ?_
  k_with "ThB true" => (refine hT9 _ ?_; (try clear hT9 hF9); (try dsimp only [List.cons_append, List.nil_append, List.append_nil]))
  k_with "ThB false" => (refine hF9 _ ?_; (try clear hT9 hF9); (try dsimp only [List.cons_append, List.nil_append, List.append_nil]))
  k_with "execs cons If" => (refine flat_if ?_; intro K9 hT9 hF9)
  k_with "execs cons If" => k_dflt ((first | (refine' if_pb (lit := false) (n := 6) ?F ?c ?_ ?_; (case F => k_asm); (case c => exact rfl)) | (refine' if_p (lit := false) (n := 6) ?F ?c ?_ ?_; (case F => k_asm); (case c => exact rfl))); (all_goals (intro k9 hb9; first | (exfalso; omega) | dsimp only [List.cons_append, List.nil_append, List.append_nil] | skip)))
  k_with "execs cons If" => k_dflt ((first | (refine' if_T (lit := true) (n := 6) ?F ?c ?_; (case F => k_asm); (case c => exact rfl)) | (refine' if_F (lit := true) (n := 6) ?F ?c ?_; (case F => k_asm); (case c => exact rfl))); intro k9; (try dsimp only [List.cons_append, List.nil_append, List.append_nil]))
  k_with "execs cons If" => k_dflt (refine' if_p (lit := true) (n := 6) ?F ?c ?_ ?_; (case F => k_asm); (case c => exact rfl); (all_goals (intro k9 hb9; first | (exfalso; omega) | dsimp only [List.cons_append, List.nil_append, List.append_nil] | skip)))
  k_with "execs cons Assign" => ((fail_if_success (with_reducible show wpAny _ _ (execs (Stmt.Assign _ (Expr.ListComp _ _ _ _) _ :: _) _) _ _ _)); refine' flat_asg ?_ ?s; (case s => exact rfl); intro K9 hK9)
  k_with "execs cons Assign" => k_dflt (refine' asg_ev (n := 6) ?F ?N ?L ?x ?s ?e ?_; (case F => k_asm); (case N => k_asm); (case L => exact rfl); (case x => exact rfl); (case s => exact rfl); (case e => exact rfl); intro t9 k9 h' m9 F' N'; (try dsimp only); (try k_sweep))
  k_with "storeName" => k_dflt (refine' store_ev ?F ?N ?L ?x ?_; (case F => k_asm); (case N => k_asm); (case L => exact rfl); (case x => exact rfl); intro h' k9 m9 F' N'; (try dsimp only); (try k_sweep))
  k_with "execs cons Return" => (refine flat_ret ?_; intro K9 hK9)
  k_with "execs cons Return" => k_dflt (refine' ret_ev (n := 6) ?F ?e ?_; (case F => k_asm); (case e => exact rfl); intro t9 k9; (try dsimp only))
  k_with "execs cons Expr" => (refine' flat_expr ?_ ?i ?s; (case i => exact rfl); (case s => exact rfl); intro K9 hK9)
  k_with "execs cons Raise" => refine flat_raise ?_
  k_with "execs cons Continue" => refine flat_cont ?_
  k_with "spliced" => plain_pass; k_dflt (refine' args_ev (n := 6) ?F ?e ?_; (case F => k_asm); (case e => exact rfl); intro t9 k9; (try dsimp only [vals, List.cons_append, List.nil_append]))
  k_with "eval Call Name" => plain_pass; k_dflt (refine' callN_ev (n := 6) ?F ?X ?T ?f ?v ?w ?g ?e ?_ ?a ?b ?d; (case F => k_asm); (case e => exact rfl); (case b => exact rfl); (case X => k_asm); (case T => k_asm); (case a => exact rfl); (case f => k_is); (case v => boot_fast); (case w => exact rfl); (case g => decide); (case d => decide); intro t9 k9; (try dsimp only [vals]))
  k_with "eval Call Name" => plain_pass; k_dflt (refine' call_ev (n := 6) ?F ?X ?T ?f ?k ?e ?_ ?a ?b ?d; (case F => k_asm); (case e => exact rfl); (case b => exact rfl); (case X => k_asm); (case T => k_asm); (case a => exact rfl); (case f => k_is); (case k => k_is); (case d => decide); intro t9 k9; (try dsimp only [vals]))
  k_with "call ref" => ((with_reducible show wpAny _ _ (call (Value.ref 147) [Value.bytes _ _]) _ _ _); (refine' b64dec _ _ (by first | assumption | (rw [trans_size]; assumption)) _ _ _ _ _ _ _ _ _ _ _ _ _ _ _ _ _ ?k1 ?k2 ?k3 ?k4 ?k5 ?kK ?kd ?ku ?_ ?_; (case k1 => k_asm); (case k2 => k_asm); (case k3 => k_asm); (case k4 => k_asm); (case k5 => k_asm); (case kK => first | exact rfl | assumption); (case kd => first | (dsimp only [Around.deeper]; omega) | ktr_room); (case ku => first | (dsimp only [Around.deeper]; omega) | ktr_units)); (all_goals first | (intro r9 hr9; obtain ⟨l9, hl9, hr9⟩ := Option.map_eq_some_iff.mp hr9; subst hr9; intro t9 h9 tk9 F9 N9; (try dsimp only); (try k_fold)) | (intro hN9 e9 t9 vs9 G9 h9 tk9 FG9 RS9 US9; (try dsimp only))))
  k_with "call ref" => ((with_reducible show wpAny _ _ (call (Value.ref 147) [Value.bytes _ _] _) _ _ _); (refine' b64decV _ _ (by first | assumption | (rw [trans_size]; assumption)) _ _ _ _ _ _ _ _ _ _ _ _ _ _ _ _ _ ?k1 ?k2 ?k3 ?k4 ?k5 ?kK ?kd ?ku ?_ ?_; (case k1 => k_asm); (case k2 => k_asm); (case k3 => k_asm); (case k4 => k_asm); (case k5 => k_asm); (case kK => first | exact rfl | assumption); (case kd => first | (dsimp only [Around.deeper]; omega) | ktr_room); (case ku => first | (dsimp only [Around.deeper]; omega) | ktr_units)); (all_goals first | (intro r9 hr9; obtain ⟨l9, hl9, hr9⟩ := Option.map_eq_some_iff.mp hr9; subst hr9; intro t9 h9 tk9 F9 N9; (try dsimp only); (try k_fold)) | (intro hN9 e9 t9 vs9 G9 h9 tk9 FG9 RS9 US9; (try dsimp only))))
  k_with "call ref" => ((with_reducible show wpAny _ _ (call (Value.ref 147) [Value.bytes _ _, Value.bytes _ _]) _ _ _); (refine' b64decP _ _ _ _ (by assumption) (by assumption) _ _ _ _ _ _ _ _ _ _ _ _ _ _ _ _ _ ?k1 ?k2 ?k3 ?k4 ?k5 ?kK ?kd ?ku ?_ ?_; (case k1 => k_asm); (case k2 => k_asm); (case k3 => k_asm); (case k4 => k_asm); (case k5 => k_asm); (case kK => first | exact rfl | assumption); (case kd => first | (dsimp only [Around.deeper]; omega) | ktr_room); (case ku => first | (dsimp only [Around.deeper]; omega) | ktr_units)); (all_goals first | (intro r9 hr9; obtain ⟨l9, hl9, hr9⟩ := Option.map_eq_some_iff.mp hr9; subst hr9; intro t9 h9 tk9 F9 N9; (try dsimp only); (try k_fold)) | (intro hN9 e9 t9 vs9 G9 h9 tk9 FG9 RS9 US9; (try dsimp only))))
  k_with "call ref" => ((with_reducible show wpAny _ _ (call (Value.ref 147) [Value.bytes _ _, Value.bytes _ _, Value.bool true]) _ _ _); (refine' b64decPV _ _ _ _ (by assumption) (by assumption) _ _ _ _ _ _ _ _ _ _ _ _ _ _ _ _ _ ?k1 ?k2 ?k3 ?k4 ?k5 ?kK ?kd ?ku ?_ ?_; (case k1 => k_asm); (case k2 => k_asm); (case k3 => k_asm); (case k4 => k_asm); (case k5 => k_asm); (case kK => first | exact rfl | assumption); (case kd => first | (dsimp only [Around.deeper]; omega) | ktr_room); (case ku => first | (dsimp only [Around.deeper]; omega) | ktr_units)); (all_goals first | (intro r9 hr9; obtain ⟨l9, hl9, hr9⟩ := Option.map_eq_some_iff.mp hr9; subst hr9; intro t9 h9 tk9 F9 N9; (try dsimp only); (try k_fold)) | (intro hN9 e9 t9 vs9 G9 h9 tk9 FG9 RS9 US9; (try dsimp only))))
  k_with "call ref" => ((with_reducible show wpAny _ _ (call (Value.ref 161) [Value.bytes _ _]) _ _ _); (refine' stddec _ _ (by assumption) _ _ _ _ _ _ _ _ _ _ _ _ _ _ _ _ _ ?k1 ?k2 ?k3 ?k4 ?k5 ?kK ?kd ?ku ?_ ?_; (case k1 => k_asm); (case k2 => k_asm); (case k3 => k_asm); (case k4 => k_asm); (case k5 => k_asm); (case kK => first | exact rfl | assumption); (case kd => first | (dsimp only [Around.deeper]; omega) | ktr_room); (case ku => first | (dsimp only [Around.deeper]; omega) | ktr_units)); (all_goals first | (intro r9 hr9; obtain ⟨l9, hl9, hr9⟩ := Option.map_eq_some_iff.mp hr9; subst hr9; intro t9 h9 tk9 F9 N9; (try dsimp only); (try k_fold)) | (intro hN9 e9 t9 vs9 G9 h9 tk9 FG9 RS9 US9; (try dsimp only))))
  k_with "call ref" => ((with_reducible show wpAny _ _ (call (Value.ref 175) [Value.bytes _ _]) _ _ _); (refine' urldec _ _ (by assumption) _ _ _ _ _ _ _ _ _ _ _ _ _ _ _ _ _ ?k1 ?k2 ?k3 ?k4 ?k5 ?kK ?kd ?ku ?_ ?_; (case k1 => k_asm); (case k2 => k_asm); (case k3 => k_asm); (case k4 => k_asm); (case k5 => k_asm); (case kK => first | exact rfl | assumption); (case kd => first | (dsimp only [Around.deeper]; omega) | ktr_room); (case ku => first | (dsimp only [Around.deeper]; omega) | ktr_units)); (all_goals first | (intro r9 hr9; obtain ⟨l9, hl9, hr9⟩ := Option.map_eq_some_iff.mp hr9; subst hr9; intro t9 h9 tk9 F9 N9; (try dsimp only); (try k_fold)) | (intro hN9 e9 t9 vs9 G9 h9 tk9 FG9 RS9 US9; (try dsimp only))))
  k_with "call ref" => ((with_reducible show wpAny _ _ (call (Value.ref 190) [Value.bytes _ _]) _ _ _); (refine' b16dec _ _ (by assumption) _ _ _ _ _ _ _ _ _ _ _ _ _ _ _ _ _ ?k1 ?k2 ?k3 ?k4 ?k5 ?kK ?kd ?ku ?_ ?_; (case k1 => k_asm); (case k2 => k_asm); (case k3 => k_asm); (case k4 => k_asm); (case k5 => k_asm); (case kK => first | exact rfl | assumption); (case kd => first | (dsimp only [Around.deeper]; omega) | ktr_room); (case ku => first | (dsimp only [Around.deeper]; omega) | ktr_units)); (all_goals first | (intro r9 hr9; obtain ⟨l9, hl9, hr9⟩ := Option.map_eq_some_iff.mp hr9; subst hr9; intro t9 h9 tk9 F9 N9; (try dsimp only); (try k_fold)) | (intro hN9 e9 t9 vs9 G9 h9 tk9 FG9 RS9 US9; (try dsimp only))))
  k_with "call ref" => ((with_reducible show wpAny _ _ (call (Value.ref 190) [Value.bytes _ _, Value.bool true]) _ _ _); (refine' b16decF _ _ (by assumption) _ _ _ _ _ _ _ _ _ _ _ _ _ _ _ _ _ ?k1 ?k2 ?k3 ?k4 ?k5 ?kK ?kd ?ku ?_ ?_; (case k1 => k_asm); (case k2 => k_asm); (case k3 => k_asm); (case k4 => k_asm); (case k5 => k_asm); (case kK => first | exact rfl | assumption); (case kd => first | (dsimp only [Around.deeper]; omega) | ktr_room); (case ku => first | (dsimp only [Around.deeper]; omega) | ktr_units)); (all_goals first | (intro r9 hr9; obtain ⟨l9, hl9, hr9⟩ := Option.map_eq_some_iff.mp hr9; subst hr9; intro t9 h9 tk9 F9 N9; (try dsimp only); (try k_fold)) | (intro hN9 e9 t9 vs9 G9 h9 tk9 FG9 RS9 US9; (try dsimp only))))
  k_steps
  · exact retS hret (by rw [show toldR 2 b c = some _ from by assumption]; exact rfl) (by assumption) (by assumption) (by assumption) (by assumption) (by assumption) (by assumption) (by assumption)
  · exact retS (t := 0) hret (by rw [show toldR 2 b c = none from Option.map_eq_none_iff.mp (by assumption)]; exact rfl) (by assumption) (by assumption) (by assumption) (by assumption) (by assumption) (by assumption) (by assumption)
theorem told3 (b c : Array UInt8) (tb tc tk : Tok) (hb : b.size ≤ 12) (hc : c.size = 2) : ClaimS prog w p loose mean mg mb 240 5 [.int 3 tk, .bytes b tb, .bytes c tc] (resV (toldR 3 b c)) := by
  dsimp only [ClaimS, RetS]
  intros
  rename_i hret
  refine wpAny_call ?_
  (refine' code_defS ?k1 ?k2 ?k3 ?k4 ?k5 ?XB ?TB ?D ?T0 ?kA ?k6 ?k7 ?k8 ?k9 ?kB ?_ ?cK ?c2 ?c3 ?c4 ?c5; (case kA => exact rfl); (case k2 => k_asm); (case k1 => k_asm); (case XB => assumption); (case TB => assumption); (case D => assumption); (case T0 => assumption); (case k3 => k_asm); (case k4 => k_asm); (case k5 => k_asm); (case k6 => k_is); (case k7 => k_is); (case k8 => first | (dsimp only [ktrTop]; omega) | ktr_room); (case k9 => first | exact binds_K (by k_in) rfl (by k_is) rfl rfl rfl | exact BindsTo.of_eq rfl); (case kB => exact locs rfl); (case cK => assumption); (case c2 => exact rfl); (case c3 => exact rfl); (case c4 => exact rfl); (case c5 => decide); k_whole; intro g1 L1 h1 FG1 F1 N1 B1 X1 T1 D1; (try dsimp only); (try k_lift B1); (try k_fold))
  k_with_none
  k_with "exec If" => (with_reducible refine wpAny_If ?_)
  k_with "isTrue Compare" => ((with_reducible show wpAny _ _ (isTrue (Expr.Compare (Expr.Name _ _) [CmpOp.Eq] [Expr.Constant (Const.int _) _ _] _) _ _) _ _ _); k_dflt (refine' test_eq ?F ?v ?_ ?a ?b ?d; (case F => k_asm); (case a => rfl); (case b => rfl); (case d => decide); (case v => rfl)); (try dsimp only))
  k_with "isTrue Compare" => ((with_reducible show wpAny _ _ (isTrue (Expr.Compare (Expr.Name _ _) [CmpOp.NotEq] [Expr.Constant (Const.int _) _ _] _) _ _) _ _ _); k_dflt (refine' test_ne ?F ?v ?_ ?a ?b ?d; (case F => k_asm); (case a => rfl); (case b => rfl); (case d => decide); (case v => rfl)); (try dsimp only))
  k_with "isTrue Compare" => ((with_reducible show wpAny _ _ (isTrue (Expr.Compare (Expr.Name _ _) [CmpOp.Lt] [Expr.Constant (Const.int _) _ _] _) _ _) _ _ _); k_dflt (refine' test_lt ?F ?v ?_ ?a ?b ?d; (case F => k_asm); (case a => rfl); (case b => rfl); (case d => decide); (case v => rfl)); (try dsimp only))
  k_with "isTrue Compare" => ((with_reducible show wpAny _ _ (isTrue (Expr.Compare (Expr.Name _ _) [CmpOp.LtE] [Expr.Constant (Const.int _) _ _] _) _ _) _ _ _); k_dflt (refine' test_le ?F ?v ?_ ?a ?b ?d; (case F => k_asm); (case a => rfl); (case b => rfl); (case d => decide); (case v => rfl)); (try dsimp only))
  k_with "isTrue Compare" => ((with_reducible show wpAny _ _ (isTrue (Expr.Compare (Expr.Name _ _) [CmpOp.GtE] [Expr.Constant (Const.int _) _ _] _) _ _) _ _ _); k_dflt (refine' test_ge ?F ?v ?_ ?a ?b ?d; (case F => k_asm); (case a => rfl); (case b => rfl); (case d => decide); (case v => rfl)); (try dsimp only))
  k_with "Thn" => first | (refine hK9 _ _ ?_; (try clear hK9); (try dsimp only)) | (refine hK9 _ ?_; (try clear hK9); (try dsimp only))
  k_with "Rtn" => (refine hR9 _ _ ?_)
  k_with "Trn" => (refine hN9 _ _ ?_; (try dsimp only))
  k_with "ThB" => refine thb_ite ?_
  k_with "ThB true" => (refine hT9 _ ?_; (try clear hT9 hF9); (try dsimp only [List.cons_append, List.nil_append, List.append_nil]))
  k_with "ThB false" => (refine hF9 _ ?_; (try clear hT9 hF9); (try dsimp only [List.cons_append, List.nil_append, List.append_nil]))
  k_with "execs cons If" => (refine flat_if ?_; intro K9 hT9 hF9)
  k_with "execs cons If" => k_dflt ((first | (refine' if_pb (lit := false) (n := 6) ?F ?c ?_ ?_; (case F => k_asm); (case c => exact rfl)) | (refine' if_p (lit := false) (n := 6) ?F ?c ?_ ?_; (case F => k_asm); (case c => exact rfl))); (all_goals (intro k9 hb9; first | (exfalso; omega) | dsimp only [List.cons_append, List.nil_append, List.append_nil] | skip)))
  k_with "execs cons If" => k_dflt ((first | (refine' if_T (lit := true) (n := 6) ?F ?c ?_; (case F => k_asm); (case c => exact rfl)) | (refine' if_F (lit := true) (n := 6) ?F ?c ?_; (case F => k_asm); (case c => exact rfl))); intro k9; (try dsimp only [List.cons_append, List.nil_append, List.append_nil]))
  k_with "execs cons If" => k_dflt (refine' if_p (lit := true) (n := 6) ?F ?c ?_ ?_; (case F => k_asm); (case c => exact rfl); (all_goals (intro k9 hb9; first | (exfalso; omega) | dsimp only [List.cons_append, List.nil_append, List.append_nil] | skip)))
  k_with "execs cons Assign" => ((fail_if_success (with_reducible show wpAny _ _ (execs (Stmt.Assign _ (Expr.ListComp _ _ _ _) _ :: _) _) _ _ _)); refine' flat_asg ?_ ?s; (case s => exact rfl); intro K9 hK9)
  k_with "execs cons Assign" => k_dflt (refine' asg_ev (n := 6) ?F ?N ?L ?x ?s ?e ?_; (case F => k_asm); (case N => k_asm); (case L => exact rfl); (case x => exact rfl); (case s => exact rfl); (case e => exact rfl); intro t9 k9 h' m9 F' N'; (try dsimp only); (try k_sweep))
  k_with "storeName" => k_dflt (refine' store_ev ?F ?N ?L ?x ?_; (case F => k_asm); (case N => k_asm); (case L => exact rfl); (case x => exact rfl); intro h' k9 m9 F' N'; (try dsimp only); (try k_sweep))
  k_with "execs cons Return" => (refine flat_ret ?_; intro K9 hK9)
  k_with "execs cons Return" => k_dflt (refine' ret_ev (n := 6) ?F ?e ?_; (case F => k_asm); (case e => exact rfl); intro t9 k9; (try dsimp only))
  k_with "execs cons Expr" => (refine' flat_expr ?_ ?i ?s; (case i => exact rfl); (case s => exact rfl); intro K9 hK9)
  k_with "execs cons Raise" => refine flat_raise ?_
  k_with "execs cons Continue" => refine flat_cont ?_
  k_with "spliced" => plain_pass; k_dflt (refine' args_ev (n := 6) ?F ?e ?_; (case F => k_asm); (case e => exact rfl); intro t9 k9; (try dsimp only [vals, List.cons_append, List.nil_append]))
  k_with "eval Call Name" => plain_pass; k_dflt (refine' callN_ev (n := 6) ?F ?X ?T ?f ?v ?w ?g ?e ?_ ?a ?b ?d; (case F => k_asm); (case e => exact rfl); (case b => exact rfl); (case X => k_asm); (case T => k_asm); (case a => exact rfl); (case f => k_is); (case v => boot_fast); (case w => exact rfl); (case g => decide); (case d => decide); intro t9 k9; (try dsimp only [vals]))
  k_with "eval Call Name" => plain_pass; k_dflt (refine' call_ev (n := 6) ?F ?X ?T ?f ?k ?e ?_ ?a ?b ?d; (case F => k_asm); (case e => exact rfl); (case b => exact rfl); (case X => k_asm); (case T => k_asm); (case a => exact rfl); (case f => k_is); (case k => k_is); (case d => decide); intro t9 k9; (try dsimp only [vals]))
  k_with "call ref" => ((with_reducible show wpAny _ _ (call (Value.ref 147) [Value.bytes _ _]) _ _ _); (refine' b64dec _ _ (by first | assumption | (rw [trans_size]; assumption)) _ _ _ _ _ _ _ _ _ _ _ _ _ _ _ _ _ ?k1 ?k2 ?k3 ?k4 ?k5 ?kK ?kd ?ku ?_ ?_; (case k1 => k_asm); (case k2 => k_asm); (case k3 => k_asm); (case k4 => k_asm); (case k5 => k_asm); (case kK => first | exact rfl | assumption); (case kd => first | (dsimp only [Around.deeper]; omega) | ktr_room); (case ku => first | (dsimp only [Around.deeper]; omega) | ktr_units)); (all_goals first | (intro r9 hr9; obtain ⟨l9, hl9, hr9⟩ := Option.map_eq_some_iff.mp hr9; subst hr9; intro t9 h9 tk9 F9 N9; (try dsimp only); (try k_fold)) | (intro hN9 e9 t9 vs9 G9 h9 tk9 FG9 RS9 US9; (try dsimp only))))
  k_with "call ref" => ((with_reducible show wpAny _ _ (call (Value.ref 147) [Value.bytes _ _] _) _ _ _); (refine' b64decV _ _ (by first | assumption | (rw [trans_size]; assumption)) _ _ _ _ _ _ _ _ _ _ _ _ _ _ _ _ _ ?k1 ?k2 ?k3 ?k4 ?k5 ?kK ?kd ?ku ?_ ?_; (case k1 => k_asm); (case k2 => k_asm); (case k3 => k_asm); (case k4 => k_asm); (case k5 => k_asm); (case kK => first | exact rfl | assumption); (case kd => first | (dsimp only [Around.deeper]; omega) | ktr_room); (case ku => first | (dsimp only [Around.deeper]; omega) | ktr_units)); (all_goals first | (intro r9 hr9; obtain ⟨l9, hl9, hr9⟩ := Option.map_eq_some_iff.mp hr9; subst hr9; intro t9 h9 tk9 F9 N9; (try dsimp only); (try k_fold)) | (intro hN9 e9 t9 vs9 G9 h9 tk9 FG9 RS9 US9; (try dsimp only))))
  k_with "call ref" => ((with_reducible show wpAny _ _ (call (Value.ref 147) [Value.bytes _ _, Value.bytes _ _]) _ _ _); (refine' b64decP _ _ _ _ (by assumption) (by assumption) _ _ _ _ _ _ _ _ _ _ _ _ _ _ _ _ _ ?k1 ?k2 ?k3 ?k4 ?k5 ?kK ?kd ?ku ?_ ?_; (case k1 => k_asm); (case k2 => k_asm); (case k3 => k_asm); (case k4 => k_asm); (case k5 => k_asm); (case kK => first | exact rfl | assumption); (case kd => first | (dsimp only [Around.deeper]; omega) | ktr_room); (case ku => first | (dsimp only [Around.deeper]; omega) | ktr_units)); (all_goals first | (intro r9 hr9; obtain ⟨l9, hl9, hr9⟩ := Option.map_eq_some_iff.mp hr9; subst hr9; intro t9 h9 tk9 F9 N9; (try dsimp only); (try k_fold)) | (intro hN9 e9 t9 vs9 G9 h9 tk9 FG9 RS9 US9; (try dsimp only))))
  k_with "call ref" => ((with_reducible show wpAny _ _ (call (Value.ref 147) [Value.bytes _ _, Value.bytes _ _, Value.bool true]) _ _ _); (refine' b64decPV _ _ _ _ (by assumption) (by assumption) _ _ _ _ _ _ _ _ _ _ _ _ _ _ _ _ _ ?k1 ?k2 ?k3 ?k4 ?k5 ?kK ?kd ?ku ?_ ?_; (case k1 => k_asm); (case k2 => k_asm); (case k3 => k_asm); (case k4 => k_asm); (case k5 => k_asm); (case kK => first | exact rfl | assumption); (case kd => first | (dsimp only [Around.deeper]; omega) | ktr_room); (case ku => first | (dsimp only [Around.deeper]; omega) | ktr_units)); (all_goals first | (intro r9 hr9; obtain ⟨l9, hl9, hr9⟩ := Option.map_eq_some_iff.mp hr9; subst hr9; intro t9 h9 tk9 F9 N9; (try dsimp only); (try k_fold)) | (intro hN9 e9 t9 vs9 G9 h9 tk9 FG9 RS9 US9; (try dsimp only))))
  k_with "call ref" => ((with_reducible show wpAny _ _ (call (Value.ref 161) [Value.bytes _ _]) _ _ _); (refine' stddec _ _ (by assumption) _ _ _ _ _ _ _ _ _ _ _ _ _ _ _ _ _ ?k1 ?k2 ?k3 ?k4 ?k5 ?kK ?kd ?ku ?_ ?_; (case k1 => k_asm); (case k2 => k_asm); (case k3 => k_asm); (case k4 => k_asm); (case k5 => k_asm); (case kK => first | exact rfl | assumption); (case kd => first | (dsimp only [Around.deeper]; omega) | ktr_room); (case ku => first | (dsimp only [Around.deeper]; omega) | ktr_units)); (all_goals first | (intro r9 hr9; obtain ⟨l9, hl9, hr9⟩ := Option.map_eq_some_iff.mp hr9; subst hr9; intro t9 h9 tk9 F9 N9; (try dsimp only); (try k_fold)) | (intro hN9 e9 t9 vs9 G9 h9 tk9 FG9 RS9 US9; (try dsimp only))))
  k_with "call ref" => ((with_reducible show wpAny _ _ (call (Value.ref 175) [Value.bytes _ _]) _ _ _); (refine' urldec _ _ (by assumption) _ _ _ _ _ _ _ _ _ _ _ _ _ _ _ _ _ ?k1 ?k2 ?k3 ?k4 ?k5 ?kK ?kd ?ku ?_ ?_; (case k1 => k_asm); (case k2 => k_asm); (case k3 => k_asm); (case k4 => k_asm); (case k5 => k_asm); (case kK => first | exact rfl | assumption); (case kd => first | (dsimp only [Around.deeper]; omega) | ktr_room); (case ku => first | (dsimp only [Around.deeper]; omega) | ktr_units)); (all_goals first | (intro r9 hr9; obtain ⟨l9, hl9, hr9⟩ := Option.map_eq_some_iff.mp hr9; subst hr9; intro t9 h9 tk9 F9 N9; (try dsimp only); (try k_fold)) | (intro hN9 e9 t9 vs9 G9 h9 tk9 FG9 RS9 US9; (try dsimp only))))
  k_with "call ref" => ((with_reducible show wpAny _ _ (call (Value.ref 190) [Value.bytes _ _]) _ _ _); (refine' b16dec _ _ (by assumption) _ _ _ _ _ _ _ _ _ _ _ _ _ _ _ _ _ ?k1 ?k2 ?k3 ?k4 ?k5 ?kK ?kd ?ku ?_ ?_; (case k1 => k_asm); (case k2 => k_asm); (case k3 => k_asm); (case k4 => k_asm); (case k5 => k_asm); (case kK => first | exact rfl | assumption); (case kd => first | (dsimp only [Around.deeper]; omega) | ktr_room); (case ku => first | (dsimp only [Around.deeper]; omega) | ktr_units)); (all_goals first | (intro r9 hr9; obtain ⟨l9, hl9, hr9⟩ := Option.map_eq_some_iff.mp hr9; subst hr9; intro t9 h9 tk9 F9 N9; (try dsimp only); (try k_fold)) | (intro hN9 e9 t9 vs9 G9 h9 tk9 FG9 RS9 US9; (try dsimp only))))
  k_with "call ref" => ((with_reducible show wpAny _ _ (call (Value.ref 190) [Value.bytes _ _, Value.bool true]) _ _ _); (refine' b16decF _ _ (by assumption) _ _ _ _ _ _ _ _ _ _ _ _ _ _ _ _ _ ?k1 ?k2 ?k3 ?k4 ?k5 ?kK ?kd ?ku ?_ ?_; (case k1 => k_asm); (case k2 => k_asm); (case k3 => k_asm); (case k4 => k_asm); (case k5 => k_asm); (case kK => first | exact rfl | assumption); (case kd => first | (dsimp only [Around.deeper]; omega) | ktr_room); (case ku => first | (dsimp only [Around.deeper]; omega) | ktr_units)); (all_goals first | (intro r9 hr9; obtain ⟨l9, hl9, hr9⟩ := Option.map_eq_some_iff.mp hr9; subst hr9; intro t9 h9 tk9 F9 N9; (try dsimp only); (try k_fold)) | (intro hN9 e9 t9 vs9 G9 h9 tk9 FG9 RS9 US9; (try dsimp only))))
  k_steps
  · exact retS hret (by rw [show toldR 3 b c = some _ from by assumption]; exact rfl) (by assumption) (by assumption) (by assumption) (by assumption) (by assumption) (by assumption) (by assumption)
  · exact retS (t := 0) hret (by rw [show toldR 3 b c = none from Option.map_eq_none_iff.mp (by assumption)]; exact rfl) (by assumption) (by assumption) (by assumption) (by assumption) (by assumption) (by assumption) (by assumption)
theorem told4 (b c : Array UInt8) (tb tc tk : Tok) (hb : b.size ≤ 12) (hc : c.size = 2) : ClaimS prog w p loose mean mg mb 240 5 [.int 4 tk, .bytes b tb, .bytes c tc] (resV (toldR 4 b c)) := by
  dsimp only [ClaimS, RetS]
  intros
  rename_i hret
  refine wpAny_call ?_
  (refine' code_defS ?k1 ?k2 ?k3 ?k4 ?k5 ?XB ?TB ?D ?T0 ?kA ?k6 ?k7 ?k8 ?k9 ?kB ?_ ?cK ?c2 ?c3 ?c4 ?c5; (case kA => exact rfl); (case k2 => k_asm); (case k1 => k_asm); (case XB => assumption); (case TB => assumption); (case D => assumption); (case T0 => assumption); (case k3 => k_asm); (case k4 => k_asm); (case k5 => k_asm); (case k6 => k_is); (case k7 => k_is); (case k8 => first | (dsimp only [ktrTop]; omega) | ktr_room); (case k9 => first | exact binds_K (by k_in) rfl (by k_is) rfl rfl rfl | exact BindsTo.of_eq rfl); (case kB => exact locs rfl); (case cK => assumption); (case c2 => exact rfl); (case c3 => exact rfl); (case c4 => exact rfl); (case c5 => decide); k_whole; intro g1 L1 h1 FG1 F1 N1 B1 X1 T1 D1; (try dsimp only); (try k_lift B1); (try k_fold))
  k_with_none
  k_with "exec If" => (with_reducible refine wpAny_If ?_)
  k_with "isTrue Compare" => ((with_reducible show wpAny _ _ (isTrue (Expr.Compare (Expr.Name _ _) [CmpOp.Eq] [Expr.Constant (Const.int _) _ _] _) _ _) _ _ _); k_dflt (refine' test_eq ?F ?v ?_ ?a ?b ?d; (case F => k_asm); (case a => rfl); (case b => rfl); (case d => decide); (case v => rfl)); (try dsimp only))
  k_with "isTrue Compare" => ((with_reducible show wpAny _ _ (isTrue (Expr.Compare (Expr.Name _ _) [CmpOp.NotEq] [Expr.Constant (Const.int _) _ _] _) _ _) _ _ _); k_dflt (refine' test_ne ?F ?v ?_ ?a ?b ?d; (case F => k_asm); (case a => rfl); (case b => rfl); (case d => decide); (case v => rfl)); (try dsimp only))
  k_with "isTrue Compare" => ((with_reducible show wpAny _ _ (isTrue (Expr.Compare (Expr.Name _ _) [CmpOp.Lt] [Expr.Constant (Const.int _) _ _] _) _ _) _ _ _); k_dflt (refine' test_lt ?F ?v ?_ ?a ?b ?d; (case F => k_asm); (case a => rfl); (case b => rfl); (case d => decide); (case v => rfl)); (try dsimp only))
  k_with "isTrue Compare" => ((with_reducible show wpAny _ _ (isTrue (Expr.Compare (Expr.Name _ _) [CmpOp.LtE] [Expr.Constant (Const.int _) _ _] _) _ _) _ _ _); k_dflt (refine' test_le ?F ?v ?_ ?a ?b ?d; (case F => k_asm); (case a => rfl); (case b => rfl); (case d => decide); (case v => rfl)); (try dsimp only))
  k_with "isTrue Compare" => ((with_reducible show wpAny _ _ (isTrue (Expr.Compare (Expr.Name _ _) [CmpOp.GtE] [Expr.Constant (Const.int _) _ _] _) _ _) _ _ _); k_dflt (refine' test_ge ?F ?v ?_ ?a ?b ?d; (case F => k_asm); (case a => rfl); (case b => rfl); (case d => decide); (case v => rfl)); (try dsimp only))
  k_with "Thn" => first | (refine hK9 _ _ ?_; (try clear hK9); (try dsimp only)) | (refine hK9 _ ?_; (try clear hK9); (try dsimp only))
  k_with "Rtn" => (refine hR9 _ _ ?_)
  k_with "Trn" => (refine hN9 _ _ ?_; (try dsimp only))
  k_with "ThB" => refine thb_ite ?_
  k_with "ThB true" => (refine hT9 _ ?_; (try clear hT9 hF9); (try dsimp only [List.cons_append, List.nil_append, List.append_nil]))
  k_with "ThB false" => (refine hF9 _ ?_; (try clear hT9 hF9); (try dsimp only [List.cons_append, List.nil_append, List.append_nil]))
  k_with "execs cons If" => (refine flat_if ?_; intro K9 hT9 hF9)
  k_with "execs cons If" => k_dflt ((first | (refine' if_pb (lit := false) (n := 6) ?F ?c ?_ ?_; (case F => k_asm); (case c => exact rfl)) | (refine' if_p (lit := false) (n := 6) ?F ?c ?_ ?_; (case F => k_asm); (case c => exact rfl))); (all_goals (intro k9 hb9; first | (exfalso; omega) | dsimp only [List.cons_append, List.nil_append, List.append_nil] | skip)))
  k_with "execs cons If" => k_dflt ((first | (refine' if_T (lit := true) (n := 6) ?F ?c ?_; (case F => k_asm); (case c => exact rfl)) | (refine' if_F (lit := true) (n := 6) ?F ?c ?_; (case F => k_asm); (case c => exact rfl))); intro k9; (try dsimp only [List.cons_append, List.nil_append, List.append_nil]))
  k_with "execs cons If" => k_dflt (refine' if_p (lit := true) (n := 6) ?F ?c ?_ ?_; (case F => k_asm); (case c => exact rfl); (all_goals (intro k9 hb9; first | (exfalso; omega) | dsimp only [List.cons_append, List.nil_append, List.append_nil] | skip)))
  k_with "execs cons Assign" => ((fail_if_success (with_reducible show wpAny _ _ (execs (Stmt.Assign _ (Expr.ListComp _ _ _ _) _ :: _) _) _ _ _)); refine' flat_asg ?_ ?s; (case s => exact rfl); intro K9 hK9)
  k_with "execs cons Assign" => k_dflt (refine' asg_ev (n := 6) ?F ?N ?L ?x ?s ?e ?_; (case F => k_asm); (case N => k_asm); (case L => exact rfl); (case x => exact rfl); (case s => exact rfl); (case e => exact rfl); intro t9 k9 h' m9 F' N'; (try dsimp only); (try k_sweep))
  k_with "storeName" => k_dflt (refine' store_ev ?F ?N ?L ?x ?_; (case F => k_asm); (case N => k_asm); (case L => exact rfl); (case x => exact rfl); intro h' k9 m9 F' N'; (try dsimp only); (try k_sweep))
  k_with "execs cons Return" => (refine flat_ret ?_; intro K9 hK9)
  k_with "execs cons Return" => k_dflt (refine' ret_ev (n := 6) ?F ?e ?_; (case F => k_asm); (case e => exact rfl); intro t9 k9; (try dsimp only))
  k_with "execs cons Expr" => (refine' flat_expr ?_ ?i ?s; (case i => exact rfl); (case s => exact rfl); intro K9 hK9)
  k_with "execs cons Raise" => refine flat_raise ?_
  k_with "execs cons Continue" => refine flat_cont ?_
  k_with "spliced" => plain_pass; k_dflt (refine' args_ev (n := 6) ?F ?e ?_; (case F => k_asm); (case e => exact rfl); intro t9 k9; (try dsimp only [vals, List.cons_append, List.nil_append]))
  k_with "eval Call Name" => plain_pass; k_dflt (refine' callN_ev (n := 6) ?F ?X ?T ?f ?v ?w ?g ?e ?_ ?a ?b ?d; (case F => k_asm); (case e => exact rfl); (case b => exact rfl); (case X => k_asm); (case T => k_asm); (case a => exact rfl); (case f => k_is); (case v => boot_fast); (case w => exact rfl); (case g => decide); (case d => decide); intro t9 k9; (try dsimp only [vals]))
  k_with "eval Call Name" => plain_pass; k_dflt (refine' call_ev (n := 6) ?F ?X ?T ?f ?k ?e ?_ ?a ?b ?d; (case F => k_asm); (case e => exact rfl); (case b => exact rfl); (case X => k_asm); (case T => k_asm); (case a => exact rfl); (case f => k_is); (case k => k_is); (case d => decide); intro t9 k9; (try dsimp only [vals]))
  k_with "call ref" => ((with_reducible show wpAny _ _ (call (Value.ref 147) [Value.bytes _ _]) _ _ _); (refine' b64dec _ _ (by first | assumption | (rw [trans_size]; assumption)) _ _ _ _ _ _ _ _ _ _ _ _ _ _ _ _ _ ?k1 ?k2 ?k3 ?k4 ?k5 ?kK ?kd ?ku ?_ ?_; (case k1 => k_asm); (case k2 => k_asm); (case k3 => k_asm); (case k4 => k_asm); (case k5 => k_asm); (case kK => first | exact rfl | assumption); (case kd => first | (dsimp only [Around.deeper]; omega) | ktr_room); (case ku => first | (dsimp only [Around.deeper]; omega) | ktr_units)); (all_goals first | (intro r9 hr9; obtain ⟨l9, hl9, hr9⟩ := Option.map_eq_some_iff.mp hr9; subst hr9; intro t9 h9 tk9 F9 N9; (try dsimp only); (try k_fold)) | (intro hN9 e9 t9 vs9 G9 h9 tk9 FG9 RS9 US9; (try dsimp only))))
  k_with "call ref" => ((with_reducible show wpAny _ _ (call (Value.ref 147) [Value.bytes _ _] _) _ _ _); (refine' b64decV _ _ (by first | assumption | (rw [trans_size]; assumption)) _ _ _ _ _ _ _ _ _ _ _ _ _ _ _ _ _ ?k1 ?k2 ?k3 ?k4 ?k5 ?kK ?kd ?ku ?_ ?_; (case k1 => k_asm); (case k2 => k_asm); (case k3 => k_asm); (case k4 => k_asm); (case k5 => k_asm); (case kK => first | exact rfl | assumption); (case kd => first | (dsimp only [Around.deeper]; omega) | ktr_room); (case ku => first | (dsimp only [Around.deeper]; omega) | ktr_units)); (all_goals first | (intro r9 hr9; obtain ⟨l9, hl9, hr9⟩ := Option.map_eq_some_iff.mp hr9; subst hr9; intro t9 h9 tk9 F9 N9; (try dsimp only); (try k_fold)) | (intro hN9 e9 t9 vs9 G9 h9 tk9 FG9 RS9 US9; (try dsimp only))))
  k_with "call ref" => ((with_reducible show wpAny _ _ (call (Value.ref 147) [Value.bytes _ _, Value.bytes _ _]) _ _ _); (refine' b64decP _ _ _ _ (by assumption) (by assumption) _ _ _ _ _ _ _ _ _ _ _ _ _ _ _ _ _ ?k1 ?k2 ?k3 ?k4 ?k5 ?kK ?kd ?ku ?_ ?_; (case k1 => k_asm); (case k2 => k_asm); (case k3 => k_asm); (case k4 => k_asm); (case k5 => k_asm); (case kK => first | exact rfl | assumption); (case kd => first | (dsimp only [Around.deeper]; omega) | ktr_room); (case ku => first | (dsimp only [Around.deeper]; omega) | ktr_units)); (all_goals first | (intro r9 hr9; obtain ⟨l9, hl9, hr9⟩ := Option.map_eq_some_iff.mp hr9; subst hr9; intro t9 h9 tk9 F9 N9; (try dsimp only); (try k_fold)) | (intro hN9 e9 t9 vs9 G9 h9 tk9 FG9 RS9 US9; (try dsimp only))))
  k_with "call ref" => ((with_reducible show wpAny _ _ (call (Value.ref 147) [Value.bytes _ _, Value.bytes _ _, Value.bool true]) _ _ _); (refine' b64decPV _ _ _ _ (by assumption) (by assumption) _ _ _ _ _ _ _ _ _ _ _ _ _ _ _ _ _ ?k1 ?k2 ?k3 ?k4 ?k5 ?kK ?kd ?ku ?_ ?_; (case k1 => k_asm); (case k2 => k_asm); (case k3 => k_asm); (case k4 => k_asm); (case k5 => k_asm); (case kK => first | exact rfl | assumption); (case kd => first | (dsimp only [Around.deeper]; omega) | ktr_room); (case ku => first | (dsimp only [Around.deeper]; omega) | ktr_units)); (all_goals first | (intro r9 hr9; obtain ⟨l9, hl9, hr9⟩ := Option.map_eq_some_iff.mp hr9; subst hr9; intro t9 h9 tk9 F9 N9; (try dsimp only); (try k_fold)) | (intro hN9 e9 t9 vs9 G9 h9 tk9 FG9 RS9 US9; (try dsimp only))))
  k_with "call ref" => ((with_reducible show wpAny _ _ (call (Value.ref 161) [Value.bytes _ _]) _ _ _); (refine' stddec _ _ (by assumption) _ _ _ _ _ _ _ _ _ _ _ _ _ _ _ _ _ ?k1 ?k2 ?k3 ?k4 ?k5 ?kK ?kd ?ku ?_ ?_; (case k1 => k_asm); (case k2 => k_asm); (case k3 => k_asm); (case k4 => k_asm); (case k5 => k_asm); (case kK => first | exact rfl | assumption); (case kd => first | (dsimp only [Around.deeper]; omega) | ktr_room); (case ku => first | (dsimp only [Around.deeper]; omega) | ktr_units)); (all_goals first | (intro r9 hr9; obtain ⟨l9, hl9, hr9⟩ := Option.map_eq_some_iff.mp hr9; subst hr9; intro t9 h9 tk9 F9 N9; (try dsimp only); (try k_fold)) | (intro hN9 e9 t9 vs9 G9 h9 tk9 FG9 RS9 US9; (try dsimp only))))
  k_with "call ref" => ((with_reducible show wpAny _ _ (call (Value.ref 175) [Value.bytes _ _]) _ _ _); (refine' urldec _ _ (by assumption) _ _ _ _ _ _ _ _ _ _ _ _ _ _ _ _ _ ?k1 ?k2 ?k3 ?k4 ?k5 ?kK ?kd ?ku ?_ ?_; (case k1 => k_asm); (case k2 => k_asm); (case k3 => k_asm); (case k4 => k_asm); (case k5 => k_asm); (case kK => first | exact rfl | assumption); (case kd => first | (dsimp only [Around.deeper]; omega) | ktr_room); (case ku => first | (dsimp only [Around.deeper]; omega) | ktr_units)); (all_goals first | (intro r9 hr9; obtain ⟨l9, hl9, hr9⟩ := Option.map_eq_some_iff.mp hr9; subst hr9; intro t9 h9 tk9 F9 N9; (try dsimp only); (try k_fold)) | (intro hN9 e9 t9 vs9 G9 h9 tk9 FG9 RS9 US9; (try dsimp only))))
  k_with "call ref" => ((with_reducible show wpAny _ _ (call (Value.ref 190) [Value.bytes _ _]) _ _ _); (refine' b16dec _ _ (by assumption) _ _ _ _ _ _ _ _ _ _ _ _ _ _ _ _ _ ?k1 ?k2 ?k3 ?k4 ?k5 ?kK ?kd ?ku ?_ ?_; (case k1 => k_asm); (case k2 => k_asm); (case k3 => k_asm); (case k4 => k_asm); (case k5 => k_asm); (case kK => first | exact rfl | assumption); (case kd => first | (dsimp only [Around.deeper]; omega) | ktr_room); (case ku => first | (dsimp only [Around.deeper]; omega) | ktr_units)); (all_goals first | (intro r9 hr9; obtain ⟨l9, hl9, hr9⟩ := Option.map_eq_some_iff.mp hr9; subst hr9; intro t9 h9 tk9 F9 N9; (try dsimp only); (try k_fold)) | (intro hN9 e9 t9 vs9 G9 h9 tk9 FG9 RS9 US9; (try dsimp only))))
  k_with "call ref" => ((with_reducible show wpAny _ _ (call (Value.ref 190) [Value.bytes _ _, Value.bool true]) _ _ _); (refine' b16decF _ _ (by assumption) _ _ _ _ _ _ _ _ _ _ _ _ _ _ _ _ _ ?k1 ?k2 ?k3 ?k4 ?k5 ?kK ?kd ?ku ?_ ?_; (case k1 => k_asm); (case k2 => k_asm); (case k3 => k_asm); (case k4 => k_asm); (case k5 => k_asm); (case kK => first | exact rfl | assumption); (case kd => first | (dsimp only [Around.deeper]; omega) | ktr_room); (case ku => first | (dsimp only [Around.deeper]; omega) | ktr_units)); (all_goals first | (intro r9 hr9; obtain ⟨l9, hl9, hr9⟩ := Option.map_eq_some_iff.mp hr9; subst hr9; intro t9 h9 tk9 F9 N9; (try dsimp only); (try k_fold)) | (intro hN9 e9 t9 vs9 G9 h9 tk9 FG9 RS9 US9; (try dsimp only))))
  k_steps
  · exact retS hret (by rw [show toldR 4 b c = some _ from by assumption]; exact rfl) (by assumption) (by assumption) (by assumption) (by assumption) (by assumption) (by assumption) (by assumption)
  · exact retS (t := 0) hret (by rw [show toldR 4 b c = none from Option.map_eq_none_iff.mp (by assumption)]; exact rfl) (by assumption) (by assumption) (by assumption) (by assumption) (by assumption) (by assumption) (by assumption)
theorem told5 (b c : Array UInt8) (tb tc tk : Tok) (hb : b.size ≤ 12) (hc : c.size = 2) : ClaimS prog w p loose mean mg mb 240 5 [.int 5 tk, .bytes b tb, .bytes c tc] (resV (toldR 5 b c)) := by
  dsimp only [ClaimS, RetS]
  intros
  rename_i hret
  refine wpAny_call ?_
  (refine' code_defS ?k1 ?k2 ?k3 ?k4 ?k5 ?XB ?TB ?D ?T0 ?kA ?k6 ?k7 ?k8 ?k9 ?kB ?_ ?cK ?c2 ?c3 ?c4 ?c5; (case kA => exact rfl); (case k2 => k_asm); (case k1 => k_asm); (case XB => assumption); (case TB => assumption); (case D => assumption); (case T0 => assumption); (case k3 => k_asm); (case k4 => k_asm); (case k5 => k_asm); (case k6 => k_is); (case k7 => k_is); (case k8 => first | (dsimp only [ktrTop]; omega) | ktr_room); (case k9 => first | exact binds_K (by k_in) rfl (by k_is) rfl rfl rfl | exact BindsTo.of_eq rfl); (case kB => exact locs rfl); (case cK => assumption); (case c2 => exact rfl); (case c3 => exact rfl); (case c4 => exact rfl); (case c5 => decide); k_whole; intro g1 L1 h1 FG1 F1 N1 B1 X1 T1 D1; (try dsimp only); (try k_lift B1); (try k_fold))
  k_with_none
  k_with "exec If" => (with_reducible refine wpAny_If ?_)
  k_with "isTrue Compare" => ((with_reducible show wpAny _ _ (isTrue (Expr.Compare (Expr.Name _ _) [CmpOp.Eq] [Expr.Constant (Const.int _) _ _] _) _ _) _ _ _); k_dflt (refine' test_eq ?F ?v ?_ ?a ?b ?d; (case F => k_asm); (case a => rfl); (case b => rfl); (case d => decide); (case v => rfl)); (try dsimp only))
  k_with "isTrue Compare" => ((with_reducible show wpAny _ _ (isTrue (Expr.Compare (Expr.Name _ _) [CmpOp.NotEq] [Expr.Constant (Const.int _) _ _] _) _ _) _ _ _); k_dflt (refine' test_ne ?F ?v ?_ ?a ?b ?d; (case F => k_asm); (case a => rfl); (case b => rfl); (case d => decide); (case v => rfl)); (try dsimp only))
  k_with "isTrue Compare" => ((with_reducible show wpAny _ _ (isTrue (Expr.Compare (Expr.Name _ _) [CmpOp.Lt] [Expr.Constant (Const.int _) _ _] _) _ _) _ _ _); k_dflt (refine' test_lt ?F ?v ?_ ?a ?b ?d; (case F => k_asm); (case a => rfl); (case b => rfl); (case d => decide); (case v => rfl)); (try dsimp only))
  k_with "isTrue Compare" => ((with_reducible show wpAny _ _ (isTrue (Expr.Compare (Expr.Name _ _) [CmpOp.LtE] [Expr.Constant (Const.int _) _ _] _) _ _) _ _ _); k_dflt (refine' test_le ?F ?v ?_ ?a ?b ?d; (case F => k_asm); (case a => rfl); (case b => rfl); (case d => decide); (case v => rfl)); (try dsimp only))
  k_with "isTrue Compare" => ((with_reducible show wpAny _ _ (isTrue (Expr.Compare (Expr.Name _ _) [CmpOp.GtE] [Expr.Constant (Const.int _) _ _] _) _ _) _ _ _); k_dflt (refine' test_ge ?F ?v ?_ ?a ?b ?d; (case F => k_asm); (case a => rfl); (case b => rfl); (case d => decide); (case v => rfl)); (try dsimp only))
  k_with "Thn" => first | (refine hK9 _ _ ?_; (try clear hK9); (try dsimp only)) | (refine hK9 _ ?_; (try clear hK9); (try dsimp only))
  k_with "Rtn" => (refine hR9 _ _ ?_)
  k_with "Trn" => (refine hN9 _ _ ?_; (try dsimp only))
  k_with "ThB" => refine thb_ite ?_
  k_with "ThB true" => (refine hT9 _ ?_; (try clear hT9 hF9); (try dsimp only [List.cons_append, List.nil_append, List.append_nil]))
  k_with "ThB false" => (refine hF9 _ ?_; (try clear hT9 hF9); (try dsimp only [List.cons_append, List.nil_append, List.append_nil]))
  k_with "execs cons If" => (refine flat_if ?_; intro K9 hT9 hF9)
  k_with "execs cons If" => k_dflt ((first | (refine' if_pb (lit := false) (n := 6) ?F ?c ?_ ?_; (case F => k_asm); (case c => exact rfl)) | (refine' if_p (lit := false) (n := 6) ?F ?c ?_ ?_; (case F => k_asm); (case c => exact rfl))); (all_goals (intro k9 hb9; first | (exfalso; omega) | dsimp only [List.cons_append, List.nil_append, List.append_nil] | skip)))
  k_with "execs cons If" => k_dflt ((first | (refine' if_T (lit := true) (n := 6) ?F ?c ?_; (case F => k_asm); (case c => exact rfl)) | (refine' if_F (lit := true) (n := 6) ?F ?c ?_; (case F => k_asm); (case c => exact rfl))); intro k9; (try dsimp only [List.cons_append, List.nil_append, List.append_nil]))
  k_with "execs cons If" => k_dflt (refine' if_p (lit := true) (n := 6) ?F ?c ?_ ?_; (case F => k_asm); (case c => exact rfl); (all_goals (intro k9 hb9; first | (exfalso; omega) | dsimp only [List.cons_append, List.nil_append, List.append_nil] | skip)))
  k_with "execs cons Assign" => ((fail_if_success (with_reducible show wpAny _ _ (execs (Stmt.Assign _ (Expr.ListComp _ _ _ _) _ :: _) _) _ _ _)); refine' flat_asg ?_ ?s; (case s => exact rfl); intro K9 hK9)
  k_with "execs cons Assign" => k_dflt (refine' asg_ev (n := 6) ?F ?N ?L ?x ?s ?e ?_; (case F => k_asm); (case N => k_asm); (case L => exact rfl); (case x => exact rfl); (case s => exact rfl); (case e => exact rfl); intro t9 k9 h' m9 F' N'; (try dsimp only); (try k_sweep))
  k_with "storeName" => k_dflt (refine' store_ev ?F ?N ?L ?x ?_; (case F => k_asm); (case N => k_asm); (case L => exact rfl); (case x => exact rfl); intro h' k9 m9 F' N'; (try dsimp only); (try k_sweep))
  k_with "execs cons Return" => (refine flat_ret ?_; intro K9 hK9)
  k_with "execs cons Return" => k_dflt (refine' ret_ev (n := 6) ?F ?e ?_; (case F => k_asm); (case e => exact rfl); intro t9 k9; (try dsimp only))
  k_with "execs cons Expr" => (refine' flat_expr ?_ ?i ?s; (case i => exact rfl); (case s => exact rfl); intro K9 hK9)
  k_with "execs cons Raise" => refine flat_raise ?_
  k_with "execs cons Continue" => refine flat_cont ?_
  k_with "spliced" => plain_pass; k_dflt (refine' args_ev (n := 6) ?F ?e ?_; (case F => k_asm); (case e => exact rfl); intro t9 k9; (try dsimp only [vals, List.cons_append, List.nil_append]))
  k_with "eval Call Name" => plain_pass; k_dflt (refine' callN_ev (n := 6) ?F ?X ?T ?f ?v ?w ?g ?e ?_ ?a ?b ?d; (case F => k_asm); (case e => exact rfl); (case b => exact rfl); (case X => k_asm); (case T => k_asm); (case a => exact rfl); (case f => k_is); (case v => boot_fast); (case w => exact rfl); (case g => decide); (case d => decide); intro t9 k9; (try dsimp only [vals]))
  k_with "eval Call Name" => plain_pass; k_dflt (refine' call_ev (n := 6) ?F ?X ?T ?f ?k ?e ?_ ?a ?b ?d; (case F => k_asm); (case e => exact rfl); (case b => exact rfl); (case X => k_asm); (case T => k_asm); (case a => exact rfl); (case f => k_is); (case k => k_is); (case d => decide); intro t9 k9; (try dsimp only [vals]))
  k_with "call ref" => ((with_reducible show wpAny _ _ (call (Value.ref 147) [Value.bytes _ _]) _ _ _); (refine' b64dec _ _ (by first | assumption | (rw [trans_size]; assumption)) _ _ _ _ _ _ _ _ _ _ _ _ _ _ _ _ _ ?k1 ?k2 ?k3 ?k4 ?k5 ?kK ?kd ?ku ?_ ?_; (case k1 => k_asm); (case k2 => k_asm); (case k3 => k_asm); (case k4 => k_asm); (case k5 => k_asm); (case kK => first | exact rfl | assumption); (case kd => first | (dsimp only [Around.deeper]; omega) | ktr_room); (case ku => first | (dsimp only [Around.deeper]; omega) | ktr_units)); (all_goals first | (intro r9 hr9; obtain ⟨l9, hl9, hr9⟩ := Option.map_eq_some_iff.mp hr9; subst hr9; intro t9 h9 tk9 F9 N9; (try dsimp only); (try k_fold)) | (intro hN9 e9 t9 vs9 G9 h9 tk9 FG9 RS9 US9; (try dsimp only))))
  k_with "call ref" => ((with_reducible show wpAny _ _ (call (Value.ref 147) [Value.bytes _ _] _) _ _ _); (refine' b64decV _ _ (by first | assumption | (rw [trans_size]; assumption)) _ _ _ _ _ _ _ _ _ _ _ _ _ _ _ _ _ ?k1 ?k2 ?k3 ?k4 ?k5 ?kK ?kd ?ku ?_ ?_; (case k1 => k_asm); (case k2 => k_asm); (case k3 => k_asm); (case k4 => k_asm); (case k5 => k_asm); (case kK => first | exact rfl | assumption); (case kd => first | (dsimp only [Around.deeper]; omega) | ktr_room); (case ku => first | (dsimp only [Around.deeper]; omega) | ktr_units)); (all_goals first | (intro r9 hr9; obtain ⟨l9, hl9, hr9⟩ := Option.map_eq_some_iff.mp hr9; subst hr9; intro t9 h9 tk9 F9 N9; (try dsimp only); (try k_fold)) | (intro hN9 e9 t9 vs9 G9 h9 tk9 FG9 RS9 US9; (try dsimp only))))
  k_with "call ref" => ((with_reducible show wpAny _ _ (call (Value.ref 147) [Value.bytes _ _, Value.bytes _ _]) _ _ _); (refine' b64decP _ _ _ _ (by assumption) (by assumption) _ _ _ _ _ _ _ _ _ _ _ _ _ _ _ _ _ ?k1 ?k2 ?k3 ?k4 ?k5 ?kK ?kd ?ku ?_ ?_; (case k1 => k_asm); (case k2 => k_asm); (case k3 => k_asm); (case k4 => k_asm); (case k5 => k_asm); (case kK => first | exact rfl | assumption); (case kd => first | (dsimp only [Around.deeper]; omega) | ktr_room); (case ku => first | (dsimp only [Around.deeper]; omega) | ktr_units)); (all_goals first | (intro r9 hr9; obtain ⟨l9, hl9, hr9⟩ := Option.map_eq_some_iff.mp hr9; subst hr9; intro t9 h9 tk9 F9 N9; (try dsimp only); (try k_fold)) | (intro hN9 e9 t9 vs9 G9 h9 tk9 FG9 RS9 US9; (try dsimp only))))
  k_with "call ref" => ((with_reducible show wpAny _ _ (call (Value.ref 147) [Value.bytes _ _, Value.bytes _ _, Value.bool true]) _ _ _); (refine' b64decPV _ _ _ _ (by assumption) (by assumption) _ _ _ _ _ _ _ _ _ _ _ _ _ _ _ _ _ ?k1 ?k2 ?k3 ?k4 ?k5 ?kK ?kd ?ku ?_ ?_; (case k1 => k_asm); (case k2 => k_asm); (case k3 => k_asm); (case k4 => k_asm); (case k5 => k_asm); (case kK => first | exact rfl | assumption); (case kd => first | (dsimp only [Around.deeper]; omega) | ktr_room); (case ku => first | (dsimp only [Around.deeper]; omega) | ktr_units)); (all_goals first | (intro r9 hr9; obtain ⟨l9, hl9, hr9⟩ := Option.map_eq_some_iff.mp hr9; subst hr9; intro t9 h9 tk9 F9 N9; (try dsimp only); (try k_fold)) | (intro hN9 e9 t9 vs9 G9 h9 tk9 FG9 RS9 US9; (try dsimp only))))
  k_with "call ref" => ((with_reducible show wpAny _ _ (call (Value.ref 161) [Value.bytes _ _]) _ _ _); (refine' stddec _ _ (by assumption) _ _ _ _ _ _ _ _ _ _ _ _ _ _ _ _ _ ?k1 ?k2 ?k3 ?k4 ?k5 ?kK ?kd ?ku ?_ ?_; (case k1 => k_asm); (case k2 => k_asm); (case k3 => k_asm); (case k4 => k_asm); (case k5 => k_asm); (case kK => first | exact rfl | assumption); (case kd => first | (dsimp only [Around.deeper]; omega) | ktr_room); (case ku => first | (dsimp only [Around.deeper]; omega) | ktr_units)); (all_goals first | (intro r9 hr9; obtain ⟨l9, hl9, hr9⟩ := Option.map_eq_some_iff.mp hr9; subst hr9; intro t9 h9 tk9 F9 N9; (try dsimp only); (try k_fold)) | (intro hN9 e9 t9 vs9 G9 h9 tk9 FG9 RS9 US9; (try dsimp only))))
  k_with "call ref" => ((with_reducible show wpAny _ _ (call (Value.ref 175) [Value.bytes _ _]) _ _ _); (refine' urldec _ _ (by assumption) _ _ _ _ _ _ _ _ _ _ _ _ _ _ _ _ _ ?k1 ?k2 ?k3 ?k4 ?k5 ?kK ?kd ?ku ?_ ?_; (case k1 => k_asm); (case k2 => k_asm); (case k3 => k_asm); (case k4 => k_asm); (case k5 => k_asm); (case kK => first | exact rfl | assumption); (case kd => first | (dsimp only [Around.deeper]; omega) | ktr_room); (case ku => first | (dsimp only [Around.deeper]; omega) | ktr_units)); (all_goals first | (intro r9 hr9; obtain ⟨l9, hl9, hr9⟩ := Option.map_eq_some_iff.mp hr9; subst hr9; intro t9 h9 tk9 F9 N9; (try dsimp only); (try k_fold)) | (intro hN9 e9 t9 vs9 G9 h9 tk9 FG9 RS9 US9; (try dsimp only))))
  k_with "call ref" => ((with_reducible show wpAny _ _ (call (Value.ref 190) [Value.bytes _ _]) _ _ _); (refine' b16dec _ _ (by assumption) _ _ _ _ _ _ _ _ _ _ _ _ _ _ _ _ _ ?k1 ?k2 ?k3 ?k4 ?k5 ?kK ?kd ?ku ?_ ?_; (case k1 => k_asm); (case k2 => k_asm); (case k3 => k_asm); (case k4 => k_asm); (case k5 => k_asm); (case kK => first | exact rfl | assumption); (case kd => first | (dsimp only [Around.deeper]; omega) | ktr_room); (case ku => first | (dsimp only [Around.deeper]; omega) | ktr_units)); (all_goals first | (intro r9 hr9; obtain ⟨l9, hl9, hr9⟩ := Option.map_eq_some_iff.mp hr9; subst hr9; intro t9 h9 tk9 F9 N9; (try dsimp only); (try k_fold)) | (intro hN9 e9 t9 vs9 G9 h9 tk9 FG9 RS9 US9; (try dsimp only))))
  k_with "call ref" => ((with_reducible show wpAny _ _ (call (Value.ref 190) [Value.bytes _ _, Value.bool true]) _ _ _); (refine' b16decF _ _ (by assumption) _ _ _ _ _ _ _ _ _ _ _ _ _ _ _ _ _ ?k1 ?k2 ?k3 ?k4 ?k5 ?kK ?kd ?ku ?_ ?_; (case k1 => k_asm); (case k2 => k_asm); (case k3 => k_asm); (case k4 => k_asm); (case k5 => k_asm); (case kK => first | exact rfl | assumption); (case kd => first | (dsimp only [Around.deeper]; omega) | ktr_room); (case ku => first | (dsimp only [Around.deeper]; omega) | ktr_units)); (all_goals first | (intro r9 hr9; obtain ⟨l9, hl9, hr9⟩ := Option.map_eq_some_iff.mp hr9; subst hr9; intro t9 h9 tk9 F9 N9; (try dsimp only); (try k_fold)) | (intro hN9 e9 t9 vs9 G9 h9 tk9 FG9 RS9 US9; (try dsimp only))))
  k_steps
  · exact retS hret (by rw [show toldR 5 b c = some _ from by assumption]; exact rfl) (by assumption) (by assumption) (by assumption) (by assumption) (by assumption) (by assumption) (by assumption)
  · exact retS (t := 0) hret (by rw [show toldR 5 b c = none from Option.map_eq_none_iff.mp (by assumption)]; exact rfl) (by assumption) (by assumption) (by assumption) (by assumption) (by assumption) (by assumption) (by assumption)
theorem told6 (b c : Array UInt8) (tb tc tk : Tok) (hb : b.size ≤ 12) (hc : c.size = 2) : ClaimS prog w p loose mean mg mb 240 5 [.int 6 tk, .bytes b tb, .bytes c tc] (resV (toldR 6 b c)) := by
  dsimp only [ClaimS, RetS]
  intros
  rename_i hret
  refine wpAny_call ?_
  (refine' code_defS ?k1 ?k2 ?k3 ?k4 ?k5 ?XB ?TB ?D ?T0 ?kA ?k6 ?k7 ?k8 ?k9 ?kB ?_ ?cK ?c2 ?c3 ?c4 ?c5; (case kA => exact rfl); (case k2 => k_asm); (case k1 => k_asm); (case XB => assumption); (case TB => assumption); (case D => assumption); (case T0 => assumption); (case k3 => k_asm); (case k4 => k_asm); (case k5 => k_asm); (case k6 => k_is); (case k7 => k_is); (case k8 => first | (dsimp only [ktrTop]; omega) | ktr_room); (case k9 => first | exact binds_K (by k_in) rfl (by k_is) rfl rfl rfl | exact BindsTo.of_eq rfl); (case kB => exact locs rfl); (case cK => assumption); (case c2 => exact rfl); (case c3 => exact rfl); (case c4 => exact rfl); (case c5 => decide); k_whole; intro g1 L1 h1 FG1 F1 N1 B1 X1 T1 D1; (try dsimp only); (try k_lift B1); (try k_fold))
  k_with_none
  k_with "exec If" => (with_reducible refine wpAny_If ?_)
  k_with "isTrue Compare" => ((with_reducible show wpAny _ _ (isTrue (Expr.Compare (Expr.Name _ _) [CmpOp.Eq] [Expr.Constant (Const.int _) _ _] _) _ _) _ _ _); k_dflt (refine' test_eq ?F ?v ?_ ?a ?b ?d; (case F => k_asm); (case a => rfl); (case b => rfl); (case d => decide); (case v => rfl)); (try dsimp only))
  k_with "isTrue Compare" => ((with_reducible show wpAny _ _ (isTrue (Expr.Compare (Expr.Name _ _) [CmpOp.NotEq] [Expr.Constant (Const.int _) _ _] _) _ _) _ _ _); k_dflt (refine' test_ne ?F ?v ?_ ?a ?b ?d; (case F => k_asm); (case a => rfl); (case b => rfl); (case d => decide); (case v => rfl)); (try dsimp only))
  k_with "isTrue Compare" => ((with_reducible show wpAny _ _ (isTrue (Expr.Compare (Expr.Name _ _) [CmpOp.Lt] [Expr.Constant (Const.int _) _ _] _) _ _) _ _ _); k_dflt (refine' test_lt ?F ?v ?_ ?a ?b ?d; (case F => k_asm); (case a => rfl); (case b => rfl); (case d => decide); (case v => rfl)); (try dsimp only))
  k_with "isTrue Compare" => ((with_reducible show wpAny _ _ (isTrue (Expr.Compare (Expr.Name _ _) [CmpOp.LtE] [Expr.Constant (Const.int _) _ _] _) _ _) _ _ _); k_dflt (refine' test_le ?F ?v ?_ ?a ?b ?d; (case F => k_asm); (case a => rfl); (case b => rfl); (case d => decide); (case v => rfl)); (try dsimp only))
  k_with "isTrue Compare" => ((with_reducible show wpAny _ _ (isTrue (Expr.Compare (Expr.Name _ _) [CmpOp.GtE] [Expr.Constant (Const.int _) _ _] _) _ _) _ _ _); k_dflt (refine' test_ge ?F ?v ?_ ?a ?b ?d; (case F => k_asm); (case a => rfl); (case b => rfl); (case d => decide); (case v => rfl)); (try dsimp only))
  k_with "Thn" => first | (refine hK9 _ _ ?_; (try clear hK9); (try dsimp only)) | (refine hK9 _ ?_; (try clear hK9); (try dsimp only))
  k_with "Rtn" => (refine hR9 _ _ ?_)
  k_with "Trn" => (refine hN9 _ _ ?_; (try dsimp only))
  k_with "ThB" => refine thb_ite ?_
  k_with "ThB true" => (refine hT9 _ ?_; (try clear hT9 hF9); (try dsimp only [List.cons_append, List.nil_append, List.append_nil]))
  k_with "ThB false" => (refine hF9 _ ?_; (try clear hT9 hF9); (try dsimp only [List.cons_append, List.nil_append, List.append_nil]))
  k_with "execs cons If" => (refine flat_if ?_; intro K9 hT9 hF9)
  k_with "execs cons If" => k_dflt ((first | (refine' if_pb (lit := false) (n := 6) ?F ?c ?_ ?_; (case F => k_asm); (case c => exact rfl)) | (refine' if_p (lit := false) (n := 6) ?F ?c ?_ ?_; (case F => k_asm); (case c => exact rfl))); (all_goals (intro k9 hb9; first | (exfalso; omega) | dsimp only [List.cons_append, List.nil_append, List.append_nil] | skip)))
  k_with "execs cons If" => k_dflt ((first | (refine' if_T (lit := true) (n := 6) ?F ?c ?_; (case F => k_asm); (case c => exact rfl)) | (refine' if_F (lit := true) (n := 6) ?F ?c ?_; (case F => k_asm); (case c => exact rfl))); intro k9; (try dsimp only [List.cons_append, List.nil_append, List.append_nil]))
  k_with "execs cons If" => k_dflt (refine' if_p (lit := true) (n := 6) ?F ?c ?_ ?_; (case F => k_asm); (case c => exact rfl); (all_goals (intro k9 hb9; first | (exfalso; omega) | dsimp only [List.cons_append, List.nil_append, List.append_nil] | skip)))
  k_with "execs cons Assign" => ((fail_if_success (with_reducible show wpAny _ _ (execs (Stmt.Assign _ (Expr.ListComp _ _ _ _) _ :: _) _) _ _ _)); refine' flat_asg ?_ ?s; (case s => exact rfl); intro K9 hK9)
  k_with "execs cons Assign" => k_dflt (refine' asg_ev (n := 6) ?F ?N ?L ?x ?s ?e ?_; (case F => k_asm); (case N => k_asm); (case L => exact rfl); (case x => exact rfl); (case s => exact rfl); (case e => exact rfl); intro t9 k9 h' m9 F' N'; (try dsimp only); (try k_sweep))
  k_with "storeName" => k_dflt (refine' store_ev ?F ?N ?L ?x ?_; (case F => k_asm); (case N => k_asm); (case L => exact rfl); (case x => exact rfl); intro h' k9 m9 F' N'; (try dsimp only); (try k_sweep))
  k_with "execs cons Return" => (refine flat_ret ?_; intro K9 hK9)
  k_with "execs cons Return" => k_dflt (refine' ret_ev (n := 6) ?F ?e ?_; (case F => k_asm); (case e => exact rfl); intro t9 k9; (try dsimp only))
  k_with "execs cons Expr" => (refine' flat_expr ?_ ?i ?s; (case i => exact rfl); (case s => exact rfl); intro K9 hK9)
  k_with "execs cons Raise" => refine flat_raise ?_
  k_with "execs cons Continue" => refine flat_cont ?_
  k_with "spliced" => plain_pass; k_dflt (refine' args_ev (n := 6) ?F ?e ?_; (case F => k_asm); (case e => exact rfl); intro t9 k9; (try dsimp only [vals, List.cons_append, List.nil_append]))
  k_with "eval Call Name" => plain_pass; k_dflt (refine' callN_ev (n := 6) ?F ?X ?T ?f ?v ?w ?g ?e ?_ ?a ?b ?d; (case F => k_asm); (case e => exact rfl); (case b => exact rfl); (case X => k_asm); (case T => k_asm); (case a => exact rfl); (case f => k_is); (case v => boot_fast); (case w => exact rfl); (case g => decide); (case d => decide); intro t9 k9; (try dsimp only [vals]))
  k_with "eval Call Name" => plain_pass; k_dflt (refine' call_ev (n := 6) ?F ?X ?T ?f ?k ?e ?_ ?a ?b ?d; (case F => k_asm); (case e => exact rfl); (case b => exact rfl); (case X => k_asm); (case T => k_asm); (case a => exact rfl); (case f => k_is); (case k => k_is); (case d => decide); intro t9 k9; (try dsimp only [vals]))
  k_with "call ref" => ((with_reducible show wpAny _ _ (call (Value.ref 147) [Value.bytes _ _]) _ _ _); (refine' b64dec _ _ (by first | assumption | (rw [trans_size]; assumption)) _ _ _ _ _ _ _ _ _ _ _ _ _ _ _ _ _ ?k1 ?k2 ?k3 ?k4 ?k5 ?kK ?kd ?ku ?_ ?_; (case k1 => k_asm); (case k2 => k_asm); (case k3 => k_asm); (case k4 => k_asm); (case k5 => k_asm); (case kK => first | exact rfl | assumption); (case kd => first | (dsimp only [Around.deeper]; omega) | ktr_room); (case ku => first | (dsimp only [Around.deeper]; omega) | ktr_units)); (all_goals first | (intro r9 hr9; obtain ⟨l9, hl9, hr9⟩ := Option.map_eq_some_iff.mp hr9; subst hr9; intro t9 h9 tk9 F9 N9; (try dsimp only); (try k_fold)) | (intro hN9 e9 t9 vs9 G9 h9 tk9 FG9 RS9 US9; (try dsimp only))))
  k_with "call ref" => ((with_reducible show wpAny _ _ (call (Value.ref 147) [Value.bytes _ _] _) _ _ _); (refine' b64decV _ _ (by first | assumption | (rw [trans_size]; assumption)) _ _ _ _ _ _ _ _ _ _ _ _ _ _ _ _ _ ?k1 ?k2 ?k3 ?k4 ?k5 ?kK ?kd ?ku ?_ ?_; (case k1 => k_asm); (case k2 => k_asm); (case k3 => k_asm); (case k4 => k_asm); (case k5 => k_asm); (case kK => first | exact rfl | assumption); (case kd => first | (dsimp only [Around.deeper]; omega) | ktr_room); (case ku => first | (dsimp only [Around.deeper]; omega) | ktr_units)); (all_goals first | (intro r9 hr9; obtain ⟨l9, hl9, hr9⟩ := Option.map_eq_some_iff.mp hr9; subst hr9; intro t9 h9 tk9 F9 N9; (try dsimp only); (try k_fold)) | (intro hN9 e9 t9 vs9 G9 h9 tk9 FG9 RS9 US9; (try dsimp only))))
  k_with "call ref" => ((with_reducible show wpAny _ _ (call (Value.ref 147) [Value.bytes _ _, Value.bytes _ _]) _ _ _); (refine' b64decP _ _ _ _ (by assumption) (by assumption) _ _ _ _ _ _ _ _ _ _ _ _ _ _ _ _ _ ?k1 ?k2 ?k3 ?k4 ?k5 ?kK ?kd ?ku ?_ ?_; (case k1 => k_asm); (case k2 => k_asm); (case k3 => k_asm); (case k4 => k_asm); (case k5 => k_asm); (case kK => first | exact rfl | assumption); (case kd => first | (dsimp only [Around.deeper]; omega) | ktr_room); (case ku => first | (dsimp only [Around.deeper]; omega) | ktr_units)); (all_goals first | (intro r9 hr9; obtain ⟨l9, hl9, hr9⟩ := Option.map_eq_some_iff.mp hr9; subst hr9; intro t9 h9 tk9 F9 N9; (try dsimp only); (try k_fold)) | (intro hN9 e9 t9 vs9 G9 h9 tk9 FG9 RS9 US9; (try dsimp only))))
  k_with "call ref" => ((with_reducible show wpAny _ _ (call (Value.ref 147) [Value.bytes _ _, Value.bytes _ _, Value.bool true]) _ _ _); (refine' b64decPV _ _ _ _ (by assumption) (by assumption) _ _ _ _ _ _ _ _ _ _ _ _ _ _ _ _ _ ?k1 ?k2 ?k3 ?k4 ?k5 ?kK ?kd ?ku ?_ ?_; (case k1 => k_asm); (case k2 => k_asm); (case k3 => k_asm); (case k4 => k_asm); (case k5 => k_asm); (case kK => first | exact rfl | assumption); (case kd => first | (dsimp only [Around.deeper]; omega) | ktr_room); (case ku => first | (dsimp only [Around.deeper]; omega) | ktr_units)); (all_goals first | (intro r9 hr9; obtain ⟨l9, hl9, hr9⟩ := Option.map_eq_some_iff.mp hr9; subst hr9; intro t9 h9 tk9 F9 N9; (try dsimp only); (try k_fold)) | (intro hN9 e9 t9 vs9 G9 h9 tk9 FG9 RS9 US9; (try dsimp only))))
  k_with "call ref" => ((with_reducible show wpAny _ _ (call (Value.ref 161) [Value.bytes _ _]) _ _ _); (refine' stddec _ _ (by assumption) _ _ _ _ _ _ _ _ _ _ _ _ _ _ _ _ _ ?k1 ?k2 ?k3 ?k4 ?k5 ?kK ?kd ?ku ?_ ?_; (case k1 => k_asm); (case k2 => k_asm); (case k3 => k_asm); (case k4 => k_asm); (case k5 => k_asm); (case kK => first | exact rfl | assumption); (case kd => first | (dsimp only [Around.deeper]; omega) | ktr_room); (case ku => first | (dsimp only [Around.deeper]; omega) | ktr_units)); (all_goals first | (intro r9 hr9; obtain ⟨l9, hl9, hr9⟩ := Option.map_eq_some_iff.mp hr9; subst hr9; intro t9 h9 tk9 F9 N9; (try dsimp only); (try k_fold)) | (intro hN9 e9 t9 vs9 G9 h9 tk9 FG9 RS9 US9; (try dsimp only))))
  k_with "call ref" => ((with_reducible show wpAny _ _ (call (Value.ref 175) [Value.bytes _ _]) _ _ _); (refine' urldec _ _ (by assumption) _ _ _ _ _ _ _ _ _ _ _ _ _ _ _ _ _ ?k1 ?k2 ?k3 ?k4 ?k5 ?kK ?kd ?ku ?_ ?_; (case k1 => k_asm); (case k2 => k_asm); (case k3 => k_asm); (case k4 => k_asm); (case k5 => k_asm); (case kK => first | exact rfl | assumption); (case kd => first | (dsimp only [Around.deeper]; omega) | ktr_room); (case ku => first | (dsimp only [Around.deeper]; omega) | ktr_units)); (all_goals first | (intro r9 hr9; obtain ⟨l9, hl9, hr9⟩ := Option.map_eq_some_iff.mp hr9; subst hr9; intro t9 h9 tk9 F9 N9; (try dsimp only); (try k_fold)) | (intro hN9 e9 t9 vs9 G9 h9 tk9 FG9 RS9 US9; (try dsimp only))))
  k_with "call ref" => ((with_reducible show wpAny _ _ (call (Value.ref 190) [Value.bytes _ _]) _ _ _); (refine' b16dec _ _ (by assumption) _ _ _ _ _ _ _ _ _ _ _ _ _ _ _ _ _ ?k1 ?k2 ?k3 ?k4 ?k5 ?kK ?kd ?ku ?_ ?_; (case k1 => k_asm); (case k2 => k_asm); (case k3 => k_asm); (case k4 => k_asm); (case k5 => k_asm); (case kK => first | exact rfl | assumption); (case kd => first | (dsimp only [Around.deeper]; omega) | ktr_room); (case ku => first | (dsimp only [Around.deeper]; omega) | ktr_units)); (all_goals first | (intro r9 hr9; obtain ⟨l9, hl9, hr9⟩ := Option.map_eq_some_iff.mp hr9; subst hr9; intro t9 h9 tk9 F9 N9; (try dsimp only); (try k_fold)) | (intro hN9 e9 t9 vs9 G9 h9 tk9 FG9 RS9 US9; (try dsimp only))))
  k_with "call ref" => ((with_reducible show wpAny _ _ (call (Value.ref 190) [Value.bytes _ _, Value.bool true]) _ _ _); (refine' b16decF _ _ (by assumption) _ _ _ _ _ _ _ _ _ _ _ _ _ _ _ _ _ ?k1 ?k2 ?k3 ?k4 ?k5 ?kK ?kd ?ku ?_ ?_; (case k1 => k_asm); (case k2 => k_asm); (case k3 => k_asm); (case k4 => k_asm); (case k5 => k_asm); (case kK => first | exact rfl | assumption); (case kd => first | (dsimp only [Around.deeper]; omega) | ktr_room); (case ku => first | (dsimp only [Around.deeper]; omega) | ktr_units)); (all_goals first | (intro r9 hr9; obtain ⟨l9, hl9, hr9⟩ := Option.map_eq_some_iff.mp hr9; subst hr9; intro t9 h9 tk9 F9 N9; (try dsimp only); (try k_fold)) | (intro hN9 e9 t9 vs9 G9 h9 tk9 FG9 RS9 US9; (try dsimp only))))
  k_steps
  · exact retS hret (by rw [show toldR 6 b c = some _ from by assumption]; exact rfl) (by assumption) (by assumption) (by assumption) (by assumption) (by assumption) (by assumption) (by assumption)
  · exact retS (t := 0) hret (by rw [show toldR 6 b c = none from Option.map_eq_none_iff.mp (by assumption)]; exact rfl) (by assumption) (by assumption) (by assumption) (by assumption) (by assumption) (by assumption) (by assumption)
theorem told7 (b c : Array UInt8) (tb tc tk : Tok) (hb : b.size ≤ 12) (hc : c.size = 2) : ClaimS prog w p loose mean mg mb 240 5 [.int 7 tk, .bytes b tb, .bytes c tc] (resV (toldR 7 b c)) := by
  dsimp only [ClaimS, RetS]
  intros
  rename_i hret
  refine wpAny_call ?_
  (refine' code_defS ?k1 ?k2 ?k3 ?k4 ?k5 ?XB ?TB ?D ?T0 ?kA ?k6 ?k7 ?k8 ?k9 ?kB ?_ ?cK ?c2 ?c3 ?c4 ?c5; (case kA => exact rfl); (case k2 => k_asm); (case k1 => k_asm); (case XB => assumption); (case TB => assumption); (case D => assumption); (case T0 => assumption); (case k3 => k_asm); (case k4 => k_asm); (case k5 => k_asm); (case k6 => k_is); (case k7 => k_is); (case k8 => first | (dsimp only [ktrTop]; omega) | ktr_room); (case k9 => first | exact binds_K (by k_in) rfl (by k_is) rfl rfl rfl | exact BindsTo.of_eq rfl); (case kB => exact locs rfl); (case cK => assumption); (case c2 => exact rfl); (case c3 => exact rfl); (case c4 => exact rfl); (case c5 => decide); k_whole; intro g1 L1 h1 FG1 F1 N1 B1 X1 T1 D1; (try dsimp only); (try k_lift B1); (try k_fold))
  k_with_none
  k_with "exec If" => (with_reducible refine wpAny_If ?_)
  k_with "isTrue Compare" => ((with_reducible show wpAny _ _ (isTrue (Expr.Compare (Expr.Name _ _) [CmpOp.Eq] [Expr.Constant (Const.int _) _ _] _) _ _) _ _ _); k_dflt (refine' test_eq ?F ?v ?_ ?a ?b ?d; (case F => k_asm); (case a => rfl); (case b => rfl); (case d => decide); (case v => rfl)); (try dsimp only))
  k_with "isTrue Compare" => ((with_reducible show wpAny _ _ (isTrue (Expr.Compare (Expr.Name _ _) [CmpOp.NotEq] [Expr.Constant (Const.int _) _ _] _) _ _) _ _ _); k_dflt (refine' test_ne ?F ?v ?_ ?a ?b ?d; (case F => k_asm); (case a => rfl); (case b => rfl); (case d => decide); (case v => rfl)); (try dsimp only))
  k_with "isTrue Compare" => ((with_reducible show wpAny _ _ (isTrue (Expr.Compare (Expr.Name _ _) [CmpOp.Lt] [Expr.Constant (Const.int _) _ _] _) _ _) _ _ _); k_dflt (refine' test_lt ?F ?v ?_ ?a ?b ?d; (case F => k_asm); (case a => rfl); (case b => rfl); (case d => decide); (case v => rfl)); (try dsimp only))
  k_with "isTrue Compare" => ((with_reducible show wpAny _ _ (isTrue (Expr.Compare (Expr.Name _ _) [CmpOp.LtE] [Expr.Constant (Const.int _) _ _] _) _ _) _ _ _); k_dflt (refine' test_le ?F ?v ?_ ?a ?b ?d; (case F => k_asm); (case a => rfl); (case b => rfl); (case d => decide); (case v => rfl)); (try dsimp only))
  k_with "isTrue Compare" => ((with_reducible show wpAny _ _ (isTrue (Expr.Compare (Expr.Name _ _) [CmpOp.GtE] [Expr.Constant (Const.int _) _ _] _) _ _) _ _ _); k_dflt (refine' test_ge ?F ?v ?_ ?a ?b ?d; (case F => k_asm); (case a => rfl); (case b => rfl); (case d => decide); (case v => rfl)); (try dsimp only))
  k_with "Thn" => first | (refine hK9 _ _ ?_; (try clear hK9); (try dsimp only)) | (refine hK9 _ ?_; (try clear hK9); (try dsimp only))
  k_with "Rtn" => (refine hR9 _ _ ?_)
  k_with "Trn" => (refine hN9 _ _ ?_; (try dsimp only))
  k_with "ThB" => refine thb_ite ?_
  k_with "ThB true" => (refine hT9 _ ?_; (try clear hT9 hF9); (try dsimp only [List.cons_append, List.nil_append, List.append_nil]))
  k_with "ThB false" => (refine hF9 _ ?_; (try clear hT9 hF9); (try dsimp only [List.cons_append, List.nil_append, List.append_nil]))
  k_with "execs cons If" => (refine flat_if ?_; intro K9 hT9 hF9)
  k_with "execs cons If" => k_dflt ((first | (refine' if_pb (lit := false) (n := 6) ?F ?c ?_ ?_; (case F => k_asm); (case c => exact rfl)) | (refine' if_p (lit := false) (n := 6) ?F ?c ?_ ?_; (case F => k_asm); (case c => exact rfl))); (all_goals (intro k9 hb9; first | (exfalso; omega) | dsimp only [List.cons_append, List.nil_append, List.append_nil] | skip)))
  k_with "execs cons If" => k_dflt ((first | (refine' if_T (lit := true) (n := 6) ?F ?c ?_; (case F => k_asm); (case c => exact rfl)) | (refine' if_F (lit := true) (n := 6) ?F ?c ?_; (case F => k_asm); (case c => exact rfl))); intro k9; (try dsimp only [List.cons_append, List.nil_append, List.append_nil]))
  k_with "execs cons If" => k_dflt (refine' if_p (lit := true) (n := 6) ?F ?c ?_ ?_; (case F => k_asm); (case c => exact rfl); (all_goals (intro k9 hb9; first | (exfalso; omega) | dsimp only [List.cons_append, List.nil_append, List.append_nil] | skip)))
  k_with "execs cons Assign" => ((fail_if_success (with_reducible show wpAny _ _ (execs (Stmt.Assign _ (Expr.ListComp _ _ _ _) _ :: _) _) _ _ _)); refine' flat_asg ?_ ?s; (case s => exact rfl); intro K9 hK9)
  k_with "execs cons Assign" => k_dflt (refine' asg_ev (n := 6) ?F ?N ?L ?x ?s ?e ?_; (case F => k_asm); (case N => k_asm); (case L => exact rfl); (case x => exact rfl); (case s => exact rfl); (case e => exact rfl); intro t9 k9 h' m9 F' N'; (try dsimp only); (try k_sweep))
  k_with "storeName" => k_dflt (refine' store_ev ?F ?N ?L ?x ?_; (case F => k_asm); (case N => k_asm); (case L => exact rfl); (case x => exact rfl); intro h' k9 m9 F' N'; (try dsimp only); (try k_sweep))
  k_with "execs cons Return" => (refine flat_ret ?_; intro K9 hK9)
  k_with "execs cons Return" => k_dflt (refine' ret_ev (n := 6) ?F ?e ?_; (case F => k_asm); (case e => exact rfl); intro t9 k9; (try dsimp only))
  k_with "execs cons Expr" => (refine' flat_expr ?_ ?i ?s; (case i => exact rfl); (case s => exact rfl); intro K9 hK9)
  k_with "execs cons Raise" => refine flat_raise ?_
  k_with "execs cons Continue" => refine flat_cont ?_
  k_with "spliced" => plain_pass; k_dflt (refine' args_ev (n := 6) ?F ?e ?_; (case F => k_asm); (case e => exact rfl); intro t9 k9; (try dsimp only [vals, List.cons_append, List.nil_append]))
  k_with "eval Call Name" => plain_pass; k_dflt (refine' callN_ev (n := 6) ?F ?X ?T ?f ?v ?w ?g ?e ?_ ?a ?b ?d; (case F => k_asm); (case e => exact rfl); (case b => exact rfl); (case X => k_asm); (case T => k_asm); (case a => exact rfl); (case f => k_is); (case v => boot_fast); (case w => exact rfl); (case g => decide); (case d => decide); intro t9 k9; (try dsimp only [vals]))
  k_with "eval Call Name" => plain_pass; k_dflt (refine' call_ev (n := 6) ?F ?X ?T ?f ?k ?e ?_ ?a ?b ?d; (case F => k_asm); (case e => exact rfl); (case b => exact rfl); (case X => k_asm); (case T => k_asm); (case a => exact rfl); (case f => k_is); (case k => k_is); (case d => decide); intro t9 k9; (try dsimp only [vals]))
  k_with "call ref" => ((with_reducible show wpAny _ _ (call (Value.ref 147) [Value.bytes _ _]) _ _ _); (refine' b64dec _ _ (by first | assumption | (rw [trans_size]; assumption)) _ _ _ _ _ _ _ _ _ _ _ _ _ _ _ _ _ ?k1 ?k2 ?k3 ?k4 ?k5 ?kK ?kd ?ku ?_ ?_; (case k1 => k_asm); (case k2 => k_asm); (case k3 => k_asm); (case k4 => k_asm); (case k5 => k_asm); (case kK => first | exact rfl | assumption); (case kd => first | (dsimp only [Around.deeper]; omega) | ktr_room); (case ku => first | (dsimp only [Around.deeper]; omega) | ktr_units)); (all_goals first | (intro r9 hr9; obtain ⟨l9, hl9, hr9⟩ := Option.map_eq_some_iff.mp hr9; subst hr9; intro t9 h9 tk9 F9 N9; (try dsimp only); (try k_fold)) | (intro hN9 e9 t9 vs9 G9 h9 tk9 FG9 RS9 US9; (try dsimp only))))
  k_with "call ref" => ((with_reducible show wpAny _ _ (call (Value.ref 147) [Value.bytes _ _] _) _ _ _); (refine' b64decV _ _ (by first | assumption | (rw [trans_size]; assumption)) _ _ _ _ _ _ _ _ _ _ _ _ _ _ _ _ _ ?k1 ?k2 ?k3 ?k4 ?k5 ?kK ?kd ?ku ?_ ?_; (case k1 => k_asm); (case k2 => k_asm); (case k3 => k_asm); (case k4 => k_asm); (case k5 => k_asm); (case kK => first | exact rfl | assumption); (case kd => first | (dsimp only [Around.deeper]; omega) | ktr_room); (case ku => first | (dsimp only [Around.deeper]; omega) | ktr_units)); (all_goals first | (intro r9 hr9; obtain ⟨l9, hl9, hr9⟩ := Option.map_eq_some_iff.mp hr9; subst hr9; intro t9 h9 tk9 F9 N9; (try dsimp only); (try k_fold)) | (intro hN9 e9 t9 vs9 G9 h9 tk9 FG9 RS9 US9; (try dsimp only))))
  k_with "call ref" => ((with_reducible show wpAny _ _ (call (Value.ref 147) [Value.bytes _ _, Value.bytes _ _]) _ _ _); (refine' b64decP _ _ _ _ (by assumption) (by assumption) _ _ _ _ _ _ _ _ _ _ _ _ _ _ _ _ _ ?k1 ?k2 ?k3 ?k4 ?k5 ?kK ?kd ?ku ?_ ?_; (case k1 => k_asm); (case k2 => k_asm); (case k3 => k_asm); (case k4 => k_asm); (case k5 => k_asm); (case kK => first | exact rfl | assumption); (case kd => first | (dsimp only [Around.deeper]; omega) | ktr_room); (case ku => first | (dsimp only [Around.deeper]; omega) | ktr_units)); (all_goals first | (intro r9 hr9; obtain ⟨l9, hl9, hr9⟩ := Option.map_eq_some_iff.mp hr9; subst hr9; intro t9 h9 tk9 F9 N9; (try dsimp only); (try k_fold)) | (intro hN9 e9 t9 vs9 G9 h9 tk9 FG9 RS9 US9; (try dsimp only))))
  k_with "call ref" => ((with_reducible show wpAny _ _ (call (Value.ref 147) [Value.bytes _ _, Value.bytes _ _, Value.bool true]) _ _ _); (refine' b64decPV _ _ _ _ (by assumption) (by assumption) _ _ _ _ _ _ _ _ _ _ _ _ _ _ _ _ _ ?k1 ?k2 ?k3 ?k4 ?k5 ?kK ?kd ?ku ?_ ?_; (case k1 => k_asm); (case k2 => k_asm); (case k3 => k_asm); (case k4 => k_asm); (case k5 => k_asm); (case kK => first | exact rfl | assumption); (case kd => first | (dsimp only [Around.deeper]; omega) | ktr_room); (case ku => first | (dsimp only [Around.deeper]; omega) | ktr_units)); (all_goals first | (intro r9 hr9; obtain ⟨l9, hl9, hr9⟩ := Option.map_eq_some_iff.mp hr9; subst hr9; intro t9 h9 tk9 F9 N9; (try dsimp only); (try k_fold)) | (intro hN9 e9 t9 vs9 G9 h9 tk9 FG9 RS9 US9; (try dsimp only))))
  k_with "call ref" => ((with_reducible show wpAny _ _ (call (Value.ref 161) [Value.bytes _ _]) _ _ _); (refine' stddec _ _ (by assumption) _ _ _ _ _ _ _ _ _ _ _ _ _ _ _ _ _ ?k1 ?k2 ?k3 ?k4 ?k5 ?kK ?kd ?ku ?_ ?_; (case k1 => k_asm); (case k2 => k_asm); (case k3 => k_asm); (case k4 => k_asm); (case k5 => k_asm); (case kK => first | exact rfl | assumption); (case kd => first | (dsimp only [Around.deeper]; omega) | ktr_room); (case ku => first | (dsimp only [Around.deeper]; omega) | ktr_units)); (all_goals first | (intro r9 hr9; obtain ⟨l9, hl9, hr9⟩ := Option.map_eq_some_iff.mp hr9; subst hr9; intro t9 h9 tk9 F9 N9; (try dsimp only); (try k_fold)) | (intro hN9 e9 t9 vs9 G9 h9 tk9 FG9 RS9 US9; (try dsimp only))))
  k_with "call ref" => ((with_reducible show wpAny _ _ (call (Value.ref 175) [Value.bytes _ _]) _ _ _); (refine' urldec _ _ (by assumption) _ _ _ _ _ _ _ _ _ _ _ _ _ _ _ _ _ ?k1 ?k2 ?k3 ?k4 ?k5 ?kK ?kd ?ku ?_ ?_; (case k1 => k_asm); (case k2 => k_asm); (case k3 => k_asm); (case k4 => k_asm); (case k5 => k_asm); (case kK => first | exact rfl | assumption); (case kd => first | (dsimp only [Around.deeper]; omega) | ktr_room); (case ku => first | (dsimp only [Around.deeper]; omega) | ktr_units)); (all_goals first | (intro r9 hr9; obtain ⟨l9, hl9, hr9⟩ := Option.map_eq_some_iff.mp hr9; subst hr9; intro t9 h9 tk9 F9 N9; (try dsimp only); (try k_fold)) | (intro hN9 e9 t9 vs9 G9 h9 tk9 FG9 RS9 US9; (try dsimp only))))
  k_with "call ref" => ((with_reducible show wpAny _ _ (call (Value.ref 190) [Value.bytes _ _]) _ _ _); (refine' b16dec _ _ (by assumption) _ _ _ _ _ _ _ _ _ _ _ _ _ _ _ _ _ ?k1 ?k2 ?k3 ?k4 ?k5 ?kK ?kd ?ku ?_ ?_; (case k1 => k_asm); (case k2 => k_asm); (case k3 => k_asm); (case k4 => k_asm); (case k5 => k_asm); (case kK => first | exact rfl | assumption); (case kd => first | (dsimp only [Around.deeper]; omega) | ktr_room); (case ku => first | (dsimp only [Around.deeper]; omega) | ktr_units)); (all_goals first | (intro r9 hr9; obtain ⟨l9, hl9, hr9⟩ := Option.map_eq_some_iff.mp hr9; subst hr9; intro t9 h9 tk9 F9 N9; (try dsimp only); (try k_fold)) | (intro hN9 e9 t9 vs9 G9 h9 tk9 FG9 RS9 US9; (try dsimp only))))
  k_with "call ref" => ((with_reducible show wpAny _ _ (call (Value.ref 190) [Value.bytes _ _, Value.bool true]) _ _ _); (refine' b16decF _ _ (by assumption) _ _ _ _ _ _ _ _ _ _ _ _ _ _ _ _ _ ?k1 ?k2 ?k3 ?k4 ?k5 ?kK ?kd ?ku ?_ ?_; (case k1 => k_asm); (case k2 => k_asm); (case k3 => k_asm); (case k4 => k_asm); (case k5 => k_asm); (case kK => first | exact rfl | assumption); (case kd => first | (dsimp only [Around.deeper]; omega) | ktr_room); (case ku => first | (dsimp only [Around.deeper]; omega) | ktr_units)); (all_goals first | (intro r9 hr9; obtain ⟨l9, hl9, hr9⟩ := Option.map_eq_some_iff.mp hr9; subst hr9; intro t9 h9 tk9 F9 N9; (try dsimp only); (try k_fold)) | (intro hN9 e9 t9 vs9 G9 h9 tk9 FG9 RS9 US9; (try dsimp only))))
  k_steps
  · exact retS hret (by rw [show toldR 7 b c = some _ from by assumption]; exact rfl) (by assumption) (by assumption) (by assumption) (by assumption) (by assumption) (by assumption) (by assumption)
  · exact retS (t := 0) hret (by rw [show toldR 7 b c = none from Option.map_eq_none_iff.mp (by assumption)]; exact rfl) (by assumption) (by assumption) (by assumption) (by assumption) (by assumption) (by assumption) (by assumption)
end
end

section
/-- rows alike, but for their tokens -/
inductive SameB : List Value → List Value → Prop
  | nil : SameB [] []
  | cons {a a' : Array UInt8} {t u : Tok} {vs ws : List Value} : a = a' → SameB vs ws → SameB (.bytes a t :: vs) (.bytes a' u :: ws)
theorem SameB.len : ∀ {vs ws : List Value}, SameB vs ws → vs.length = ws.length
  | _, _, .nil => rfl
  | _, _, .cons _ r => by rw [List.length_cons, List.length_cons, r.len]
theorem SameB.at : ∀ {vs ws : List Value}, SameB vs ws → ∀ (j : Nat) (x y : Value), vs[j]? = some x → ws[j]? = some y → ∃ a t u, x = .bytes a t ∧ y = .bytes a u
  | _, _, .nil, _, _, _, h, _ => by simp at h
  | _, _, .cons e _, 0, _, _, h, h' => by
    simp only [List.getElem?_cons_zero, Option.some.injEq] at h h'
    subst e
    exact ⟨_, _, _, h.symm, h'.symm⟩
  | _, _, .cons _ r, j + 1, x, y, h, h' => r.at j x y (by simpa using h) (by simpa using h')
section
variable {prog : Program} {w : World} {A : Around} {E : Value → Shared → Prop} {s : Shared}
theorem ne_rows {h₀ : Heap} {L l r : Addr} {news : List (Addr × Obj)} {vs ws : List Value} {n n' : Nat} {Q : Value → Shared → Prop} (N : News h₀ L s.heap news) (hl : (l, listOf (List.toArray vs) n) ∈ news) (hr : (r, listOf (List.toArray ws) n') ∈ news) (hS : SameB vs ws) (hu : A.units < cLine)
    (h : Q (.bool false) s) : wpAny (model prog w) A (compareOp .NotEq (.ref l) (.ref r)) Q E s := by
  have hL := (N _ hl).1
  have hR := (N _ hr).1
  refine cmp_ofNotEq (richCompare_meets_room (op := .NotEq) ⟨_, hL, rfl⟩ ⟨_, hR, rfl⟩ F.slot_list_ne F.entry_list_ne (F.args_list_ne_2 _ _) (SeqAt.list_neAt l r vs.toArray ws.toArray n n' none none #[] #[] (by simpa using hS.len) (fun _ => true)) ⟨hL, hR, ?_, ?_⟩ hu)
  · intro j h1 h2 prog w E Q hq
    obtain ⟨a, t, u, e1, e2⟩ := hS.at j _ _ (List.getElem?_eq_getElem (by simpa using h1)) (List.getElem?_eq_getElem (by simpa using h2))
    rw [show vs.toArray[j] = vs[j]'(by simpa using h1) from by simp, show ws.toArray[j] = ws[j]'(by simpa using h2) from by simp, e1, e2]
    exact eqBool_bytes (by simpa using hq)
  · exact ⟨by simp, by rw [List.all_eq_true.mpr fun _ _ => rfl]; exact h⟩
end
/-- behind a turn of a loop: some ground, some state, some ledger -/
inductive EndX {Z : Type} (G : Heap → Prop) (R : Z → Prop) (L I : Addr) (ks : List Str) (kv : Z → List Value) (oI : Obj) (fixed : List (Addr × Obj)) (J : List (Addr × Obj) → Prop) (s : Shared) : Shared → Prop
  | mk (z : Z) (g' h' : Heap) (tk' : Nat) (m' : Str → Option Value) (nx : List (Addr × Obj)) : G g' → R z → (∀ p ∈ nx, p.1 ≠ I) → (∀ p ∈ fixed, p ∈ nx) → J nx → Fr g' L h' m' → News g' L h' ((I, oI) :: nx) → ks.map m' = (kv z).map some → EndX G R L I ks kv oI fixed J s { s with heap := h', toks := tk' }
def EndF (X : Shared → Prop) (Q : Flow → Shared → Prop) (f : Flow) (s₂ : Shared) : Prop :=
  match f with
  | .ret v => Q (.ret v) s₂
  | .brk => Q .next s₂
  | _ => X s₂
/-- ahead of a turn -/
inductive InvX {Z : Type} (G : Heap → Prop) (R : Z → Prop) (L I : Addr) (ks : List Str) (kv : Z → List Value) (fixed : List (Addr × Obj)) (J : Nat → List (Addr × Obj) → Prop) (St : Nat → Heap → Prop) (n : Nat) (s : Shared) : Nat → Shared → Prop
  | mk (i : Nat) (oI : Obj) (s' : Shared) : i ≤ n → St i s'.heap → EndX G R L I ks kv oI fixed (J i) s s' → InvX G R L I ks kv fixed J St n s (n + 1 - i) s'
/-- a range loop whose turns may turn the ground -/
def EndG (G : Heap → Prop) (L I : Addr) (ks : List Str) (kv : List Value) (nx : List (Addr × Obj)) (oI : Obj) (s : Shared) (Q : Flow → Shared → Prop) : Flow → Shared → Prop :=
  EndF (EndX (Z := Unit) G (fun _ => True) L I ks (fun _ => kv) oI [] (fun nx' => nx' = nx) s) Q
/-- the same for a loop over a list; the ledger may grow -/
def EndJ (G : Heap → Prop) (L I : Addr) (ks : List Str) (kv : List Value) (oI : Obj) (fixed : Addr × Obj) (J : List (Addr × Obj) → Prop) (s : Shared) (Q : Flow → Shared → Prop) : Flow → Shared → Prop :=
  EndF (EndX (Z := Unit) G (fun _ => True) L I ks (fun _ => kv) oI [fixed] J s) Q
section
variable {prog : Program} {w : World} {A : Around} {E : Value → Shared → Prop} {s : Shared} {env : Env}
theorem codeX {Z : Type} {G : Heap → Prop} {R : Z → Prop} {I : Addr} {oI : Obj} {s₁ : Shared} {fp : List Addr} {n : Nat} {P : Nat → Value → Prop} {St : Nat → Heap → Prop} {x : Str} {px : Pos} {body : List Stmt} {Q : Flow → Shared → Prop} {fixed : List (Addr × Obj)} {kv : Z → List Value} {ks : List Str} {J : Nat → List (Addr × Obj) → Prop}
    (W : Walks prog w A I fp [I] n P St) (hfp : ∀ b ∈ fp, b = I ∨ ∃ o, (b, o) ∈ fixed) (hIof : ∀ i h, St i h → ∃ o, h.get? I = some o)
    (hx : env.kindOf x = some .local) (hp : (env.scope.kind == .class || (env.scope.kind == .module && env.locals != env.globals)) = false)
    (turn : ∀ (k : Nat) (v : Value) (u : Str → Option Value) (oI : Obj) (z : Z) (g' h' : Heap) (tk' : Nat) (nx : List (Addr × Obj)), k < n → P k v → G g' → R z → (∀ p ∈ nx, p.1 ≠ I) → J k nx → (∀ p ∈ fixed, p ∈ nx) →
      Fr g' env.locals h' (fun y => if y = x then some v else ov ks (kv z) u y) → News g' env.locals h' ((I, oI) :: nx) →
      wpAny (model prog w) A (execs body env) (EndF (EndX G R env.locals I ks kv oI fixed (J (k + 1)) s) Q) E { s with heap := h', toks := tk' })
    (done : ∀ (u : Str → Option Value) (z : Z) (g' h' : Heap) (tk' : Nat) (nx : List (Addr × Obj)), G g' → R z → J n nx → (∀ p ∈ fixed, p ∈ nx) → Fr g' env.locals h' (ov ks (kv z) u) → News g' env.locals h' nx → Q .next { s with heap := h', toks := tk' })
    (hE : PassesOwn (model prog w) A env E) (hst : St 0 s₁.heap) (hX : EndX G R env.locals I ks kv oI fixed (J 0) s s₁) :
    codeAny (model prog w) A (.forLoop (.Name x px) (.ref I) body [] env) (fun r s' => match r with | .ok f => Q f s' | .error e => cameBackBy (model prog w) A env E e s') s₁ := by
  refine codeAny_forLoop (InvX G R env.locals I ks kv fixed J St n s) ?_ (n + 1) (.mk 0 oI s₁ (Nat.zero_le _) hst hX)
  rintro k s' ⟨i, oI', _, hi, hit, ⟨z, g', h', tk', m', nx, hG', hz', hoff, hfx, hJ', F', N', hk'⟩⟩
  have hLI : env.locals ≠ I := Ne.symm (N' _ (.head _)).2.1
  have hgI : g'.get? I = none := (N' _ (.head _)).2.2
  have keep : ∀ h₁ : Heap, (∀ b o, b ∉ [I] → h'.get? b = some o → h₁.get? b = some o) → Fr g' env.locals h₁ (ov ks (kv z) m') ∧ News g' env.locals h₁ nx := fun h₁ hk₁ => by
    rw [ov_eq hk']
    exact ⟨⟨F'.ns.at' fun o e => hk₁ _ o (fun q => hLI (List.mem_singleton.mp q)) e, fun b o e => hk₁ b o (fun q => by rw [List.mem_singleton.mp q, hgI] at e; cases e) (F'.keep b o e), F'.above⟩,
      fun p hp => ⟨hk₁ _ _ (fun q => hoff p hp (List.mem_singleton.mp q)) (N' p (.tail _ hp)).1, (N' p (.tail _ hp)).2⟩⟩
  by_cases hlt : i < n
  · refine W.item i _ _ _ hlt hit fun v h₁ tk₁ hP hst₁ hk₁ => ?_
    obtain ⟨F₁, N₁⟩ := keep h₁ hk₁
    refine wpAny_assign_Name (wpAny_storeName_local hx F₁.ns (fun h₂ hn₂ hs₂ => ?_) hp)
    have hst₂ := W.frame _ _ h₂ hst₁ fun b hb o e => (hs₂.2 b fun q => by
      rcases hfp b hb with e1 | ⟨o', e1⟩
      · exact hLI (q ▸ e1)
      · exact (N' _ (.tail _ (hfx _ e1))).2.1 q).trans e
    obtain ⟨o₂, ho₂⟩ := hIof _ _ hst₂
    have N₂ : News g' env.locals h₂ ((I, o₂) :: nx) := fun p hp => by
      rcases List.mem_cons.mp hp with rfl | hp
      · exact ⟨ho₂, Ne.symm hLI, hgI⟩
      · exact N₁.set hs₂ p hp
    have up : ∀ s₃, EndX G R env.locals I ks kv o₂ fixed (J (i + 1)) s s₃ → InvX G R env.locals I ks kv fixed J St n s (n + 1 - (i + 1)) s₃ := fun s₃ X => by
      refine .mk (i + 1) o₂ s₃ hlt ?_ X
      obtain ⟨z₃, g₃, h₃, tk₃, m₃, nx₃, _, _, _, hf₃, _, _, N₃, _⟩ := X
      refine W.frame _ h₂ _ hst₂ fun b hb o e => ?_
      rcases hfp b hb with rfl | ⟨o', e1⟩
      · rw [ho₂] at e
        exact e ▸ (N₃ _ (.head _)).1
      · have e2 := (N₂ _ (.tail _ (hfx _ e1))).1
        rw [e] at e2
        exact e2 ▸ (N₃ _ (.tail _ (hf₃ _ e1))).1
    refine wpAny_passesOwn hE (wpAny_mono (turn i v m' o₂ z g' h₂ _ nx hlt hP hG' hz' hoff hJ' hfx (F₁.set hn₂ hs₂) N₂) (fun f s₃ h₃ => ?_) fun _ _ e => e)
    have lt : n + 1 - (i + 1) < n + 1 - i := by omega
    cases f with
    | ret v => exact h₃
    | brk => exact h₃
    | cont => exact ⟨_, lt, up s₃ h₃⟩
    | next => exact ⟨_, lt, up s₃ h₃⟩
  · obtain rfl : i = n := by omega
    refine W.done _ _ _ hit fun h₁ tk₁ hk₁ => wpAny_execs_nil ?_
    obtain ⟨F₁, N₁⟩ := keep h₁ hk₁
    exact done m' z g' h₁ tk₁ nx hG' hz' hJ' hfx F₁ N₁
theorem EndX.start {Z : Type} {G : Heap → Prop} {R : Z → Prop} {h₀ : Heap} {m₀ : Str → Option Value} {nx₀ fixed : List (Addr × Obj)} {kv : Z → List Value} {ks : List Str} {J : List (Addr × Obj) → Prop} {o : Obj} (z₀ : Z) (hG : G h₀) (F : Fr h₀ env.locals s.heap m₀) (N : News h₀ env.locals s.heap nx₀) (hz : R z₀) (hk : ks.map m₀ = (kv z₀).map some) (hl : ∀ p ∈ fixed, p ∈ nx₀) (hJ : J nx₀) (ho : o.isFreed = false) :
    EndX G R env.locals s.heap.objs.size ks kv o fixed J s { s with heap := s.heap.push o } := by
  refine .mk z₀ h₀ _ s.toks m₀ nx₀ hG hz (fun p hp => Nat.ne_of_lt (Heap.lt_size (N p hp).1)) hl hJ (F.push _) (fun p hp => ?_) hk
  rcases List.mem_cons.mp hp with rfl | hp
  · exact ⟨Heap.get?_push_size _ ho, Ne.symm (Nat.ne_of_lt F.ns.lt), next_is_new F⟩
  · exact ⟨Heap.get?_push_of_some _ (N p hp).1, (N p hp).2⟩
theorem rangeG {G : Heap → Prop} {r : Addr} {n : Nat} {t₀ u₀ v₀ : Tok} {h₀ : Heap} {x : Str} {px : Pos} {body : List Stmt} {Q : Flow → Shared → Prop} {m₀ : Str → Option Value} {nx : List (Addr × Obj)} {kv : List Value} (ks : List Str)
    (hx : env.kindOf x = some .local) (hp : (env.scope.kind == .class || (env.scope.kind == .module && env.locals != env.globals)) = false)
    (hh : A.handled = none) (hr : IsRange s.heap r 0 n 1 t₀ u₀ v₀) (hsmall : Builtin.Range.small 0 n 1 = true) (hn : Builtin.Range.rangeSize 0 n 1 = (n : Int))
    (hG : G h₀) (F : Fr h₀ env.locals s.heap m₀) (N : News h₀ env.locals s.heap nx) (hk : ks.map m₀ = kv.map some)
    (turn : ∀ (k : Nat) (t : Tok) (u : Str → Option Value) (I : Addr) (oI : Obj) (g' h' : Heap) (tk' : Nat), k < n → G g' → (∀ p ∈ nx, p.1 < I) →
      Fr g' env.locals h' (fun y => if y = x then some (.int (k : Int) t) else ov ks kv u y) → News g' env.locals h' ((I, oI) :: nx) →
      wpAny (model prog w) A (execs body env) (EndG G env.locals I ks kv nx oI s Q) E { s with heap := h', toks := tk' })
    (done : ∀ (u : Str → Option Value) (g' h' : Heap) (tk' : Nat), G g' → Fr g' env.locals h' (ov ks kv u) → News g' env.locals h' nx → Q .next { s with heap := h', toks := tk' })
    (hE : PassesOwn (model prog w) A env E) :
    wpAny (model prog w) A (pyIter (.ref r)) (fun it s₂ => codeAny (model prog w) A (.forLoop (.Name x px) it body [] env) (fun r s' => match r with | .ok f => Q f s' | .error e => cameBackBy (model prog w) A env E e s') s₂) E s := by
  refine wpAny_pyIter_range hr hsmall ?_
  refine codeX (Z := Unit) (fixed := []) (J := fun _ nx' => nx' = nx) (Walks.range (prog := prog) (w := w) hh s.heap.objs.size 0 1 n) (fun b hb => .inl (List.mem_singleton.mp hb)) (fun _ _ st => ⟨_, st⟩) hx hp
    (turn := fun k v u oI _ g' h' tk' nx' hk hP hG' _ _ hJ _ F' N' => ?_) (done := fun u _ g' h' tk' nx' hG' _ hJ _ F' N' => by cases hJ; exact done u g' h' tk' hG' F' N') hE ?_
    (EndX.start (kv := fun _ => kv) (R := fun _ => True) () hG F N trivial hk (fun _ hp => by cases hp) rfl rfl)
  · cases hJ
    obtain ⟨t, rfl⟩ := hP
    rw [show ((0 : Int) + (k : Int) * 1) = (k : Int) by omega] at F'
    exact turn k t u _ oI g' h' tk' hk hG' (fun p hp => Heap.lt_size (N p hp).1) F' N'
  · show IsRangeIter _ _ _ _ _
    rw [hn]
    simpa using Heap.get?_push_size _ rfl
theorem iterX {Z : Type} {G : Heap → Prop} {R : Z → Prop} {z₀ : Z} {l : Addr} {ws : List Value} {nl : Nat} {h₀ : Heap} {x : Str} {px : Pos} {body : List Stmt} {Q : Flow → Shared → Prop} {m₀ : Str → Option Value} {nx₀ : List (Addr × Obj)} {kv : Z → List Value} {ks : List Str} {J : Nat → List (Addr × Obj) → Prop}
    (hx : env.kindOf x = some .local) (hp : (env.scope.kind == .class || (env.scope.kind == .module && env.locals != env.globals)) = false)
    (hh : A.handled = none) (hG : G h₀) (F : Fr h₀ env.locals s.heap m₀) (N : News h₀ env.locals s.heap nx₀) (hz : R z₀) (hk : ks.map m₀ = (kv z₀).map some) (hl : (l, listOf (List.toArray ws) nl) ∈ nx₀) (hJ : J 0 nx₀)
    (turn : ∀ (k : Nat) (v : Value) (u : Str → Option Value) (I : Addr) (oI : Obj) (z : Z) (g' h' : Heap) (tk' : Nat) (nx : List (Addr × Obj)), ws[k]? = some v → G g' → R z → (∀ p ∈ nx, p.1 ≠ I) → J k nx → (l, listOf (List.toArray ws) nl) ∈ nx →
      Fr g' env.locals h' (fun y => if y = x then some v else ov ks (kv z) u y) → News g' env.locals h' ((I, oI) :: nx) →
      wpAny (model prog w) A (execs body env) (EndF (EndX G R env.locals I ks kv oI [(l, listOf (List.toArray ws) nl)] (J (k + 1)) s) Q) E { s with heap := h', toks := tk' })
    (done : ∀ (u : Str → Option Value) (z : Z) (g' h' : Heap) (tk' : Nat) (nx : List (Addr × Obj)), G g' → R z → J ws.length nx → (l, listOf (List.toArray ws) nl) ∈ nx → Fr g' env.locals h' (ov ks (kv z) u) → News g' env.locals h' nx → Q .next { s with heap := h', toks := tk' })
    (hE : PassesOwn (model prog w) A env E) :
    wpAny (model prog w) A (pyIter (.ref l)) (fun it s₂ => codeAny (model prog w) A (.forLoop (.Name x px) it body [] env) (fun r s' => match r with | .ok f => Q f s' | .error e => cameBackBy (model prog w) A env E e s') s₂) E s := by
  have hol := (N _ hl).1
  have hls : s.heap.IsList l ws.toArray := ⟨_, hol, rfl, nl, rfl⟩
  have hne : l ≠ s.heap.objs.size := Nat.ne_of_lt (Heap.lt_size hol)
  refine wpAny_pyIter_list hls ?_
  refine codeX (Z := Z) (fixed := [(l, listOf (List.toArray ws) nl)]) (J := J) (Walks.list (prog := prog) (w := w) hh s.heap.objs.size l hne ws.toArray) (fun b hb => ?_) (fun _ _ st => ?_) hx hp
    (turn := fun k v u oI z g' h' tk' nx' _ hP hG' hz' ho hJ hf F' N' => turn k v u _ oI z g' h' tk' nx' (by simpa using hP) hG' hz' ho hJ (hf _ (.head _)) F' N') (done := fun u z g' h' tk' nx' hG' hz' hJ hf F' N' => done u z g' h' tk' nx' hG' hz' hJ (hf _ (.head _)) F' N') hE ?_
    (EndX.start z₀ hG F N hz hk (fun p hp => List.mem_singleton.mp hp ▸ hl) hJ rfl)
  · rcases List.mem_cons.mp hb with rfl | hb
    · exact .inl rfl
    · obtain rfl := List.mem_singleton.mp hb
      exact .inr ⟨_, List.Mem.head _⟩
  · obtain ⟨⟨o, ho, _⟩, _⟩ := st
    exact ⟨o, ho⟩
  · exact ⟨⟨_, Heap.get?_push_size _ rfl, rfl, rfl⟩, hls.at fun o e => Heap.get?_push_of_some _ e⟩
theorem listG {G : Heap → Prop} {l : Addr} {ws : List Value} {nl : Nat} {h₀ : Heap} {x : Str} {px : Pos} {body : List Stmt} {Q : Flow → Shared → Prop} {m₀ : Str → Option Value} {nx₀ : List (Addr × Obj)} {kv : List Value} (ks : List Str) (J : Nat → List (Addr × Obj) → Prop)
    (hx : env.kindOf x = some .local) (hp : (env.scope.kind == .class || (env.scope.kind == .module && env.locals != env.globals)) = false)
    (hh : A.handled = none) (hG : G h₀) (F : Fr h₀ env.locals s.heap m₀) (N : News h₀ env.locals s.heap nx₀) (hk : ks.map m₀ = kv.map some) (hl : (l, listOf (List.toArray ws) nl) ∈ nx₀) (hJ : J 0 nx₀)
    (turn : ∀ (k : Nat) (v : Value) (u : Str → Option Value) (I : Addr) (oI : Obj) (g' h' : Heap) (tk' : Nat) (nx : List (Addr × Obj)), ws[k]? = some v → G g' → (∀ p ∈ nx, p.1 ≠ I) → J k nx → (l, listOf (List.toArray ws) nl) ∈ nx →
      Fr g' env.locals h' (fun y => if y = x then some v else ov ks kv u y) → News g' env.locals h' ((I, oI) :: nx) →
      wpAny (model prog w) A (execs body env) (EndJ G env.locals I ks kv oI (l, listOf (List.toArray ws) nl) (J (k + 1)) s Q) E { s with heap := h', toks := tk' })
    (done : ∀ (u : Str → Option Value) (g' h' : Heap) (tk' : Nat) (nx : List (Addr × Obj)), G g' → J ws.length nx → (l, listOf (List.toArray ws) nl) ∈ nx → Fr g' env.locals h' (ov ks kv u) → News g' env.locals h' nx → Q .next { s with heap := h', toks := tk' })
    (hE : PassesOwn (model prog w) A env E) :
    wpAny (model prog w) A (pyIter (.ref l)) (fun it s₂ => codeAny (model prog w) A (.forLoop (.Name x px) it body [] env) (fun r s' => match r with | .ok f => Q f s' | .error e => cameBackBy (model prog w) A env E e s') s₂) E s :=
  iterX (R := fun _ : Unit => True) (kv := fun _ => kv) (z₀ := ()) hx hp hh hG F N trivial hk hl hJ (fun k v u I oI _ g' h' tk' nx hv hG' _ => turn k v u I oI g' h' tk' nx hv hG') (fun u _ g' h' tk' nx hG' _ => done u g' h' tk' nx hG') hE
theorem append_V {h₀ : Heap} {L D : Addr} {m : Str → Option Value} {news news' : List (Addr × Obj)} {us : List Value} {nn : Nat} {v : Value} {Q : Value → Shared → Prop} (Fh : Fr h₀ L s.heap m) (N : News h₀ L s.heap news) (U : Upd D (listOf (List.toArray us) nn) (listOf (List.toArray (us ++ [v])) (nn + 1)) news news') (hn : us.length ≤ 1000)
    (h : ∀ h', Fr h₀ L h' m → News h₀ L h' news' → Q .none { s with heap := h' }) : wpAny (model prog w) A (call (.builtin "list.append") [.ref D, v]) Q E s := by
  rw [← List.push_toArray] at U
  exact append_K Fh N U h (by rw [List.size_toArray, sizeLine_eq]; omega)
theorem EndJ.next {G : Heap → Prop} {L I : Addr} {ks : List Str} {kv : List Value} {oI : Obj} {fixed : Addr × Obj} {J : List (Addr × Obj) → Prop} {Q : Flow → Shared → Prop} {g' h' : Heap} {tk' : Nat} {m' : Str → Option Value} {nx : List (Addr × Obj)}
    (hG : G g') (ho : ∀ p ∈ nx, p.1 ≠ I) (hm : fixed ∈ nx) (hJ : J nx) (F' : Fr g' L h' m') (N' : News g' L h' ((I, oI) :: nx)) (hk : ks.map m' = kv.map some) : EndJ G L I ks kv oI fixed J s Q .next { s with heap := h', toks := tk' } :=
  .mk () g' h' tk' m' nx hG trivial ho (fun p hp => List.mem_singleton.mp hp ▸ hm) hJ F' N' hk
theorem EndG.next {G : Heap → Prop} {L I : Addr} {ks : List Str} {kv : List Value} {nx : List (Addr × Obj)} {oI : Obj} {Q : Flow → Shared → Prop} {g' h' : Heap} {tk' : Nat} {m' : Str → Option Value}
    (hG : G g') (ho : ∀ p ∈ nx, p.1 < I) (F' : Fr g' L h' m') (N' : News g' L h' ((I, oI) :: nx)) (hk : ks.map m' = kv.map some) : EndG G L I ks kv nx oI s Q .next { s with heap := h', toks := tk' } :=
  .mk () g' h' tk' m' nx hG trivial (fun p hp => Nat.ne_of_lt (ho p hp)) (fun _ hp => by cases hp) rfl F' N' hk
end
end

theorem reset31 : True := by
  w_top off
  k_with_none
  trivial
section
/-- what the law holds due of the readers -/
def dueF (Ta Tb Tc ns : List Int) (k : Nat) : Option (Option (List Int)) :=
  match k with
  | 0 => some (from16 false ns)
  | 1 => some (from16 true ns)
  | 2 => from64 Ta false ns
  | 3 => from64 Ta true ns
  | 4 => from64 Tb false ns
  | 5 => from64 Tb true ns
  | 6 => from64 Ta false ns
  | _ => from64 Tc false ns
/-- the plain mathematics that the look asks for -/
structure LookOk (Ta Tb Tc : List Int) (b c : Array UInt8) : Prop where
  h16 : upped ((hexCps b).map (·.toUInt8)) = byteArr ((regGroups 8 4 (KBw.bInts b)).map sgn16)
  h64 : byteArr (encOut (KBw.bInts b)) = byteArr (spec64 #[43, 47] (KBw.bInts b))
  hurl : trans (mkT #[43, 47] #[45, 95]) (byteArr (encOut (KBw.bInts b))) = byteArr (spec64 #[45, 95] (KBw.bInts b))
  hpair : trans (mkT #[43, 47] c) (byteArr (encOut (KBw.bInts b))) = byteArr (spec64 c (KBw.bInts b))
  due : ∀ k, k < 8 → dueF Ta Tb Tc (KBw.bInts b) k = none ∨ dueF Ta Tb Tc (KBw.bInts b) k = some (toldR k b c)
def Due (Ta Tb Tc ns : List Int) (j : Nat) (vs : List Value) : Prop := vs.length = j ∧ ∀ k v, vs[k]? = some v → ∃ t, v = resO (dueF Ta Tb Tc ns k) t
theorem Due.snoc {Ta Tb Tc ns : List Int} {j : Nat} {vs : List Value} {t : Tok} {r : Option (Option (List Int))} (h : Due Ta Tb Tc ns j vs) (e : dueF Ta Tb Tc ns j = r) : Due Ta Tb Tc ns (j + 1) (vs ++ [resO r t]) := by
  subst e
  refine ⟨by rw [List.length_append, h.1, List.length_singleton], fun k v hv => ?_⟩
  by_cases hk : k < vs.length
  · rw [List.getElem?_append_left hk] at hv
    exact h.2 k v hv
  · rw [List.getElem?_append_right (by omega)] at hv
    have hk2 : k - vs.length = 0 := by
      cases e : k - vs.length with
      | zero => rfl
      | succ n => rw [e] at hv; simp at hv
    rw [hk2] at hv
    have hk3 : k = j := by have := h.1; omega
    simp only [List.getElem?_cons_zero, Option.some.injEq] at hv
    subst hk3
    exact ⟨t, hv.symm⟩
theorem Due.two {Ta Tb Tc ns : List Int} {t t' : Tok} : Due Ta Tb Tc ns 2 [resV (from16 false ns) t, resV (from16 true ns) t'] := by
  refine ⟨rfl, fun k v hv => ?_⟩
  match k, hv with
  | 0, hv => exact ⟨t, (Option.some.inj hv).symm⟩
  | 1, hv => exact ⟨t', (Option.some.inj hv).symm⟩
  | k + 2, hv => simp at hv
theorem Due.eight {Ta Tb Tc ns : List Int} {vs : List Value} {t t' : Tok} (h : Due Ta Tb Tc ns 6 vs) : Due Ta Tb Tc ns 8 (vs ++ [resO (from64 Ta false ns) t] ++ [resO (from64 Tc false ns) t']) :=
  Due.snoc (Due.snoc h (show dueF Ta Tb Tc ns 6 = from64 Ta false ns from rfl)) (show dueF Ta Tb Tc ns 7 = from64 Tc false ns from rfl)
/-- the ledger while the list of what is due grows -/
inductive DueJ (pre : List (Addr × Obj)) (D : Addr) (rest : List (Addr × Obj)) (P : Nat → List Value → Prop) (i : Nat) : List (Addr × Obj) → Prop
  | mk (vs : List Value) (n : Nat) : P i vs → DueJ pre D rest P i (pre ++ (D, listOf (List.toArray vs) n) :: rest)
theorem off_same {pre rest : List (Addr × Obj)} {D I : Addr} {o o' : Obj} (h : ∀ p ∈ pre ++ (D, o) :: rest, p.1 ≠ I) : ∀ p ∈ pre ++ (D, o') :: rest, p.1 ≠ I := fun p hp => by
  rcases List.mem_append.mp hp with h1 | h1
  · exact h p (List.mem_append_left _ h1)
  · rcases List.mem_cons.mp h1 with rfl | h1
    · exact h (D, o) (List.mem_append_right _ (.head _))
    · exact h p (List.mem_append_right _ (.tail _ h1))
theorem from16_len {fold : Bool} {ns l : List Int} (h : from16 fold ns = some l) : l.length ≤ ns.length := by
  unfold from16 at h
  cases e : figs16 fold ns with
  | none => rw [e] at h; cases h
  | some out =>
    rw [e, Option.bind_some] at h
    split at h
    · cases h
    · have hl := figs16_len e
      cases h
      rw [regGroups_len]
      omega
theorem fold64_len (T : List Int) (strict : Bool) (l : List Int) : ∀ (st st' : List Int × Int), l.foldl (fun st x => st.bind fun q => step64 T strict q x) (.ok st : St64) = .ok st' → st'.1.length ≤ st.1.length + l.length := by
  induction l with
  | nil => intro st st' h; cases h; exact Nat.le_refl _
  | cons n l ih =>
    intro st st' h
    rw [List.foldl_cons] at h
    change l.foldl (fun st x => st.bind fun q => step64 T strict q x) (step64 T strict st n) = .ok st' at h
    cases e : step64 T strict st n with
    | error r => rw [e, fold64_err] at h; cases h
    | ok st1 =>
      rw [e] at h
      have h1 := ih st1 st' h
      have h2 : st1.1.length ≤ st.1.length + 1 := by
        unfold step64 at e
        (repeat' split at e) <;> cases e <;> simp
      rw [List.length_cons]
      omega
theorem from64_len {T : List Int} {strict : Bool} {ns l : List Int} (h : from64 T strict ns = some (some l)) : l.length ≤ ns.length := by
  unfold from64 at h
  cases e : fold64 T strict ns with
  | error r =>
    exfalso
    have key : ∀ (ms : List Int) (st : List Int × Int) (r : Option (Option (List Int))), ms.foldl (fun st x => st.bind fun q => step64 T strict q x) (.ok st : St64) = .error r → ∀ l, r ≠ some (some l) := by
      intro ms
      induction ms with
      | nil => intro st r h; cases h
      | cons n ms ih =>
        intro st r h
        rw [List.foldl_cons] at h
        change ms.foldl (fun st x => st.bind fun q => step64 T strict q x) (step64 T strict st n) = .error r at h
        cases e1 : step64 T strict st n with
        | ok st1 => rw [e1] at h; exact ih st1 r h
        | error r1 =>
          rw [e1, fold64_err] at h
          cases h
          intro l hl
          subst hl
          unfold step64 at e1
          (repeat' split at e1) <;> cases e1
    rw [e] at h
    exact key ns ([], 0) r e l h
  | ok st =>
    rw [e] at h
    have h1 := fold64_len T strict ns ([], 0) st e
    simp only [List.length_nil, Nat.zero_add] at h1
    change fin64 st = _ at h
    unfold fin64 at h
    (repeat' split at h) <;> cases h
    rw [regGroups_len]
    omega
theorem dueF_len {Ta Tb Tc ns l : List Int} {k : Nat} (h : dueF Ta Tb Tc ns k = some (some l)) : l.length ≤ ns.length := by
  unfold dueF at h
  split at h
  · exact from16_len (Option.some.inj h)
  · exact from16_len (Option.some.inj h)
  all_goals exact from64_len h
def DueVals (vs : List Value) : Prop := vs.length = 8 ∧ ∀ v ∈ vs, ∃ r t, v = resO r t ∧ ∀ l, r = some (some l) → l.length ≤ 12
theorem Due.vals {Ta Tb Tc : List Int} {b : Array UInt8} {vs : List Value} (h : Due Ta Tb Tc (KBw.bInts b) 8 vs) (hb : b.size ≤ 12) : DueVals vs := by
  refine ⟨h.1, fun v hv => ?_⟩
  obtain ⟨k, hk, rfl⟩ := List.getElem_of_mem hv
  obtain ⟨t, ht⟩ := h.2 k _ (List.getElem?_eq_getElem hk)
  refine ⟨_, t, ht, fun l hl => ?_⟩
  have := dueF_len hl
  rw [KBw.ints_length] at this
  omega
theorem due_item {prog : Program} {w : World} {A : Around} {E : Value → Shared → Prop} {s : Shared} {value slice : PySem.Expr} {h₀ : Heap} {L D : Addr} {news : List (Addr × Obj)} {vs : List Value} {n j : Nat} {u : Tok} {i : Int} {Q : Value → Shared → Prop} {Ta Tb Tc ns : List Int} {r : Option (Option (List Int))} (N : News h₀ L s.heap news) (hm : (D, listOf (List.toArray vs) n) ∈ news) (hD : Due Ta Tb Tc ns j vs) (hj : j ≤ 100) (k : Nat) (hi : i = (k : Int)) (hk : k < j) (hr : dueF Ta Tb Tc ns k = r)
    (h : ∀ t, Q (resO r t) s)
    (hs : subscripted slice false (.ref D) (.int i u) = operate [.ref D, .int i u] (getItem (.ref D) (.int i u))) : wpAny (model prog w) A (subscriptTail value slice (.ref D) (.int i u)) Q E s := by
  subst hr hi
  have hl : k < vs.length := by rw [hD.1]; exact hk
  obtain ⟨t, ht⟩ := hD.2 k vs[k] (List.getElem?_eq_getElem hl)
  have hl' := News.isList N hm
  refine tail_any hl'.typeIs slot_list_getitem.lookup (wpAny_getItem_list hl' (by omega) (by omega) (by rw [Int.toNat_natCast, List.getElem?_toArray]; exact List.getElem?_eq_getElem hl) ?_) hs
  rw [ht]
  exact h t
/-- what is no longer asked for goes out of the ledger -/
theorem keepN {g h : Heap} {L : Addr} {l : List (Addr × Obj)} (N : News g L h l) (l' : List (Addr × Obj)) (hs : ∀ p ∈ l', p ∈ l) : News g L h l' := fun p hp => N p (hs p hp)
/-- the table that is its turn's, whichever it is -/
inductive TabAt (Ta Tb Tc ns : List Int) (rest : List (Addr × Obj)) (k : Nat) : Value → Prop
  | mk (ta : Addr) (T : List Int) (wsT : List Value) (nT : Nat) : IntsAre wsT T → T.length = 256 → (ta, listOf (List.toArray wsT) nT) ∈ rest → k < 2 → (∀ st, dueF Ta Tb Tc ns (2 + 2 * k + cond st 1 0) = from64 T st ns) → TabAt Ta Tb Tc ns rest k (.ref ta)
theorem tab_pick {g h : Heap} {L t0 t1 : Addr} {ws0 ws1 : List Value} {n0 n1 k : Nat} {v : Value} {a b c : Addr × Obj} {rest : List (Addr × Obj)} {Ta Tb Tc ns : List Int} (_N : News g L h (a :: b :: c :: rest)) (hv : [Value.ref t0, Value.ref t1][k]? = some v)
    (hw0 : IntsAre ws0 Ta) (hw1 : IntsAre ws1 Tb) (l0 : Ta.length = 256) (l1 : Tb.length = 256) (m0 : (t0, listOf (List.toArray ws0) n0) ∈ rest) (m1 : (t1, listOf (List.toArray ws1) n1) ∈ rest) :
    TabAt Ta Tb Tc ns rest k v := by
  match k, hv with
  | 0, hv => cases hv; exact .mk t0 Ta ws0 n0 hw0 l0 m0 (by decide) fun st => by cases st <;> rfl
  | 1, hv => cases hv; exact .mk t1 Tb ws1 n1 hw1 l1 m1 (by decide) fun st => by cases st <;> rfl
  | k + 2, hv => simp at hv
inductive BoolAt : Nat → Value → Prop
  | mk (st : Bool) : BoolAt (cond st 1 0) (.bool st)
theorem bool_pick {k : Nat} {v : Value} (hv : [Value.bool false, Value.bool true][k]? = some v) : BoolAt k v := by
  match k, hv with
  | 0, hv => cases hv; exact .mk false
  | 1, hv => cases hv; exact .mk true
  | k + 2, hv => simp at hv
theorem toldAny {prog : Program} {w : World} {p : Program} {loose : List Str} {mean : ExcName → Option Value} {mg mb : Str → Option Value} (b c : Array UInt8) (tb tc tk : Tok) (hb : b.size ≤ 12) (hc : c.size = 2) (k : Nat) (hk : k < 8) (r : Option (List Int)) (hr : toldR k b c = r) : ClaimS prog w p loose mean mg mb 240 5 [.int (k : Int) tk, .bytes b tb, .bytes c tc] (resV r) := by
  subst hr
  match k, hk with
  | 0, _ => exact told0 b c tb tc tk hb hc
  | 1, _ => exact told1 b c tb tc tk hb hc
  | 2, _ => exact told2 b c tb tc tk hb hc
  | 3, _ => exact told3 b c tb tc tk hb hc
  | 4, _ => exact told4 b c tb tc tk hb hc
  | 5, _ => exact told5 b c tb tc tk hb hc
  | 6, _ => exact told6 b c tb tc tk hb hc
  | 7, _ => exact told7 b c tb tc tk hb hc
  | n + 8, h => exact absurd h (by omega)
section
variable {prog : Program} {w : World} {p : Program} {loose : List Str} {mean : ExcName → Option Value} {mg mb : Str → Option Value}
theorem looked (b c : Array UInt8) (tb tc : Tok) (tl t0 t1 t2 : Addr) (ws0 ws1 ws2 : List Value) (n0 n1 n2 nt : Nat) (Ta Tb Tc : List Int) (hb : b.size ≤ 12) (hc : c.size = 2) (hw0 : IntsAre ws0 Ta) (hw1 : IntsAre ws1 Tb) (hw2 : IntsAre ws2 Tc) (hTa : Ta.length = 256) (hTb : Tb.length = 256) (hTc : Tc.length = 256) (hok : LookOk Ta Tb Tc b c)
    (dp un : Nat) (gd : Option (List Code)) (cn : Str) (cs : Scope) (a : Addr) (ccd : Value) (A₀ : Around) (base h₀ : Heap) (L : Addr) (m : Str → Option Value) (news : List (Addr × Obj)) (s : Shared) (Q E : Value → Shared → Prop)
    (hB : Below A₀ base [] h₀) (hF : Fr h₀ L s.heap m) (hX : (hd.heap_39 w.params).In h₀) (hN : News h₀ L s.heap ((tl, listOf #[.ref t0, .ref t1, .ref t2] nt) :: (t2, listOf (List.toArray ws2) n2) :: (t1, listOf (List.toArray ws1) n1) :: (t0, listOf (List.toArray ws0) n0) :: news)) (hT : Top p loose mean mg mb h₀) (hXB : (hd.heap_39 w.params).In base) (hTB : Top p loose mean mg mb base) (hcs : cs.kind = .function)
    (hdp : dp + 7 < recursionLimit) (hun : un + 8 * 7 < cLine)
    (hret : ∀ (D : Addr) (vs : List Value) (n : Nat) (h' : Heap) (tk' : Nat), Fr h₀ L h' m → News h₀ L h' ((D, listOf (List.toArray vs) n) :: news) → (∀ p ∈ news, p.1 ≠ D) → DueVals vs → Q (.ref D) { s with heap := h', toks := tk' }) :
      wpAny (model prog w) (ktrTop dp un gd cn cs L a ccd [] []) (call (.ref 247) [.bytes b tb, .bytes c tc, .ref tl]) Q E s := by
  obtain ⟨h16, h64, hurl, hpair, hdue⟩ := hok
  refine wpAny_call ?_
  (refine' code_defS0 ?k1 ?k2 ?k3 ?k4 ?k5 ?kA ?k6 ?k7 ?k8 ?k9 ?kB ?_ ?cK ?c2 ?c3 ?c4 ?c5; (case kA => exact rfl); (case k2 => k_asm); (case k1 => k_asm); (case k3 => k_asm); (case k4 => k_asm); (case k5 => k_asm); (case k6 => k_is); (case k7 => k_is); (case k8 => first | (dsimp only [ktrTop]; omega) | ktr_room); (case k9 => first | exact binds_K (by k_in) rfl (by k_is) rfl rfl rfl | exact BindsTo.of_eq rfl); (case kB => exact locs rfl); (case cK => assumption); (case c2 => exact rfl); (case c3 => exact rfl); (case c4 => exact rfl); (case c5 => decide); k_whole; intro g1 L1 h1 FG1 F1 N1 B1 X1 T1 D1; (try dsimp only); (try k_lift B1); (try k_fold))
  k_with_none
  k_with "exec If" => (with_reducible refine wpAny_If ?_)
  k_with "isTrue Compare" => ((with_reducible show wpAny _ _ (isTrue (Expr.Compare (Expr.Name _ _) [CmpOp.Eq] [Expr.Constant (Const.int _) _ _] _) _ _) _ _ _); k_dflt (refine' test_eq ?F ?v ?_ ?a ?b ?d; (case F => k_asm); (case a => rfl); (case b => rfl); (case d => decide); (case v => rfl)); (try dsimp only))
  k_with "isTrue Compare" => ((with_reducible show wpAny _ _ (isTrue (Expr.Compare (Expr.Name _ _) [CmpOp.NotEq] [Expr.Constant (Const.int _) _ _] _) _ _) _ _ _); k_dflt (refine' test_ne ?F ?v ?_ ?a ?b ?d; (case F => k_asm); (case a => rfl); (case b => rfl); (case d => decide); (case v => rfl)); (try dsimp only))
  k_with "isTrue Compare" => ((with_reducible show wpAny _ _ (isTrue (Expr.Compare (Expr.Name _ _) [CmpOp.Lt] [Expr.Constant (Const.int _) _ _] _) _ _) _ _ _); k_dflt (refine' test_lt ?F ?v ?_ ?a ?b ?d; (case F => k_asm); (case a => rfl); (case b => rfl); (case d => decide); (case v => rfl)); (try dsimp only))
  k_with "isTrue Compare" => ((with_reducible show wpAny _ _ (isTrue (Expr.Compare (Expr.Name _ _) [CmpOp.LtE] [Expr.Constant (Const.int _) _ _] _) _ _) _ _ _); k_dflt (refine' test_le ?F ?v ?_ ?a ?b ?d; (case F => k_asm); (case a => rfl); (case b => rfl); (case d => decide); (case v => rfl)); (try dsimp only))
  k_with "isTrue Compare" => ((with_reducible show wpAny _ _ (isTrue (Expr.Compare (Expr.Name _ _) [CmpOp.GtE] [Expr.Constant (Const.int _) _ _] _) _ _) _ _ _); k_dflt (refine' test_ge ?F ?v ?_ ?a ?b ?d; (case F => k_asm); (case a => rfl); (case b => rfl); (case d => decide); (case v => rfl)); (try dsimp only))
  k_with "Thn" => first | (refine hK9 _ _ ?_; (try clear hK9); (try dsimp only)) | (refine hK9 _ ?_; (try clear hK9); (try dsimp only))
  k_with "Rtn" => (refine hR9 _ _ ?_)
  k_with "Trn" => (refine hN9 _ _ ?_; (try dsimp only))
  k_with "ThB" => refine thb_ite ?_
  k_with "ThB true" => (refine hT9 _ ?_; (try clear hT9 hF9); (try dsimp only [List.cons_append, List.nil_append, List.append_nil]))
  k_with "ThB false" => (refine hF9 _ ?_; (try clear hT9 hF9); (try dsimp only [List.cons_append, List.nil_append, List.append_nil]))
  k_with "execs cons If" => (refine flat_if ?_; intro K9 hT9 hF9)
  k_with "execs cons If" => k_dflt ((first | (refine' if_pb (lit := false) (n := 6) ?F ?c ?_ ?_; (case F => k_asm); (case c => exact rfl)) | (refine' if_p (lit := false) (n := 6) ?F ?c ?_ ?_; (case F => k_asm); (case c => exact rfl))); (all_goals (intro k9 hb9; first | (exfalso; omega) | dsimp only [List.cons_append, List.nil_append, List.append_nil] | skip)))
  k_with "execs cons If" => k_dflt ((first | (refine' if_T (lit := true) (n := 6) ?F ?c ?_; (case F => k_asm); (case c => exact rfl)) | (refine' if_F (lit := true) (n := 6) ?F ?c ?_; (case F => k_asm); (case c => exact rfl))); intro k9; (try dsimp only [List.cons_append, List.nil_append, List.append_nil]))
  k_with "execs cons If" => k_dflt (refine' if_p (lit := true) (n := 6) ?F ?c ?_ ?_; (case F => k_asm); (case c => exact rfl); (all_goals (intro k9 hb9; first | (exfalso; omega) | dsimp only [List.cons_append, List.nil_append, List.append_nil] | skip)))
  k_with "execs cons Assign" => ((fail_if_success (with_reducible show wpAny _ _ (execs (Stmt.Assign _ (Expr.ListComp _ _ _ _) _ :: _) _) _ _ _)); refine' flat_asg ?_ ?s; (case s => exact rfl); intro K9 hK9)
  k_with "execs cons Assign" => k_dflt (refine' asg_ev (n := 6) ?F ?N ?L ?x ?s ?e ?_; (case F => k_asm); (case N => k_asm); (case L => exact rfl); (case x => exact rfl); (case s => exact rfl); (case e => exact rfl); intro t9 k9 h' m9 F' N'; (try dsimp only); (try k_sweep))
  k_with "storeName" => k_dflt (refine' store_ev ?F ?N ?L ?x ?_; (case F => k_asm); (case N => k_asm); (case L => exact rfl); (case x => exact rfl); intro h' k9 m9 F' N'; (try dsimp only); (try k_sweep))
  k_with "execs cons Return" => (refine flat_ret ?_; intro K9 hK9)
  k_with "execs cons Return" => k_dflt (refine' ret_ev (n := 6) ?F ?e ?_; (case F => k_asm); (case e => exact rfl); intro t9 k9; (try dsimp only))
  k_with "execs cons Expr" => (refine' flat_expr ?_ ?i ?s; (case i => exact rfl); (case s => exact rfl); intro K9 hK9)
  k_with "execs cons Raise" => refine flat_raise ?_
  k_with "execs cons Continue" => refine flat_cont ?_
  k_with "spliced" => plain_pass; k_dflt (refine' args_ev (n := 6) ?F ?e ?_; (case F => k_asm); (case e => exact rfl); intro t9 k9; (try dsimp only [vals, List.cons_append, List.nil_append]))
  k_with "eval Call Name" => plain_pass; k_dflt (refine' callN_ev (n := 6) ?F ?X ?T ?f ?v ?w ?g ?e ?_ ?a ?b ?d; (case F => k_asm); (case e => exact rfl); (case b => exact rfl); (case X => k_asm); (case T => k_asm); (case a => exact rfl); (case f => k_is); (case v => boot_fast); (case w => exact rfl); (case g => decide); (case d => decide); intro t9 k9; (try dsimp only [vals]))
  k_with "eval Call Name" => plain_pass; k_dflt (refine' call_ev (n := 6) ?F ?X ?T ?f ?k ?e ?_ ?a ?b ?d; (case F => k_asm); (case e => exact rfl); (case b => exact rfl); (case X => k_asm); (case T => k_asm); (case a => exact rfl); (case f => k_is); (case k => k_is); (case d => decide); intro t9 k9; (try dsimp only [vals]))
  k_with "call ref" => ((with_reducible show wpAny _ _ (call (Value.ref 139) [Value.bytes _ _]) _ _ _); (refine' b64enc _ _ (by assumption) _ _ _ _ _ _ _ _ _ _ _ _ _ _ _ _ _ _ ?k1 ?k2 ?k3 ?k4 ?k5 ?kK ?kd ?ku ?_; (case k1 => k_asm); (case k2 => k_asm); (case k3 => k_asm); (case k4 => k_asm); (case k5 => k_asm); (case kK => first | exact rfl | assumption); (case kd => first | (dsimp only [Around.deeper]; omega) | ktr_room); (case ku => first | (dsimp only [Around.deeper]; omega) | ktr_units); intro t9 h9 tk9 F9 N9; (try dsimp only); (try k_fold)))
  k_with "call ref" => ((with_reducible show wpAny _ _ (call (Value.ref 139) [Value.bytes _ _, Value.bytes _ _]) _ _ _); (refine' b64encP _ _ _ _ (by assumption) (by assumption) _ _ _ _ _ _ _ _ _ _ _ _ _ _ _ _ _ _ ?k1 ?k2 ?k3 ?k4 ?k5 ?kK ?kd ?ku ?_; (case k1 => k_asm); (case k2 => k_asm); (case k3 => k_asm); (case k4 => k_asm); (case k5 => k_asm); (case kK => first | exact rfl | assumption); (case kd => first | (dsimp only [Around.deeper]; omega) | ktr_room); (case ku => first | (dsimp only [Around.deeper]; omega) | ktr_units); intro t9 h9 tk9 F9 N9; (try dsimp only); (try k_fold)))
  k_with "call ref" => ((with_reducible show wpAny _ _ (call (Value.ref 154) [Value.bytes _ _]) _ _ _); (refine' stdenc _ _ (by assumption) _ _ _ _ _ _ _ _ _ _ _ _ _ _ _ _ _ _ ?k1 ?k2 ?k3 ?k4 ?k5 ?kK ?kd ?ku ?_; (case k1 => k_asm); (case k2 => k_asm); (case k3 => k_asm); (case k4 => k_asm); (case k5 => k_asm); (case kK => first | exact rfl | assumption); (case kd => first | (dsimp only [Around.deeper]; omega) | ktr_room); (case ku => first | (dsimp only [Around.deeper]; omega) | ktr_units); intro t9 h9 tk9 F9 N9; (try dsimp only); (try k_fold)))
  k_with "call ref" => ((with_reducible show wpAny _ _ (call (Value.ref 168) [Value.bytes _ _]) _ _ _); (refine' urlenc _ _ (by assumption) _ _ _ _ _ _ _ _ _ _ _ _ _ _ _ _ _ _ ?k1 ?k2 ?k3 ?k4 ?k5 ?kK ?kd ?ku ?_; (case k1 => k_asm); (case k2 => k_asm); (case k3 => k_asm); (case k4 => k_asm); (case k5 => k_asm); (case kK => first | exact rfl | assumption); (case kd => first | (dsimp only [Around.deeper]; omega) | ktr_room); (case ku => first | (dsimp only [Around.deeper]; omega) | ktr_units); intro t9 h9 tk9 F9 N9; (try dsimp only); (try k_fold)))
  k_with "call ref" => ((with_reducible show wpAny _ _ (call (Value.ref 182) [Value.bytes _ _]) _ _ _); (refine' b16enc _ _ (by assumption) _ _ _ _ _ _ _ _ _ _ _ _ _ _ _ _ _ _ ?k1 ?k2 ?k3 ?k4 ?k5 ?kK ?kd ?ku ?_; (case k1 => k_asm); (case k2 => k_asm); (case k3 => k_asm); (case k4 => k_asm); (case k5 => k_asm); (case kK => first | exact rfl | assumption); (case kd => first | (dsimp only [Around.deeper]; omega) | ktr_room); (case ku => first | (dsimp only [Around.deeper]; omega) | ktr_units); intro t9 h9 tk9 F9 N9; (try dsimp only); (try k_fold)))
  k_with "call ref" => ((with_reducible show wpAny _ _ (call (Value.ref 207) [Value.bytes _ _]) _ _ _); (refine' law_sixteen _ _ (by assumption) _ _ _ _ _ _ _ _ _ _ _ _ _ _ _ _ _ _ ?k1 ?k2 ?k3 ?k4 ?k5 ?kK ?kd ?ku ?_; (case k1 => k_asm); (case k2 => k_asm); (case k3 => k_asm); (case k4 => k_asm); (case k5 => k_asm); (case kK => first | exact rfl | assumption); (case kd => first | (dsimp only [Around.deeper]; omega) | ktr_room); (case ku => first | (dsimp only [Around.deeper]; omega) | ktr_units); intro t9 h9 tk9 F9 N9; (try dsimp only); (try k_fold)))
  k_with "call ref" => ((with_reducible show wpAny _ _ (call (Value.ref 212) [Value.bytes _ _, Value.bytes _ _]) _ _ _); (refine' law_sixty_four _ _ _ _ (by assumption) (by first | assumption | rfl) _ _ _ _ _ _ _ _ _ _ _ _ _ _ _ _ _ _ ?k1 ?k2 ?k3 ?k4 ?k5 ?kK ?kd ?ku ?_; (case k1 => k_asm); (case k2 => k_asm); (case k3 => k_asm); (case k4 => k_asm); (case k5 => k_asm); (case kK => first | exact rfl | assumption); (case kd => first | (dsimp only [Around.deeper]; omega) | ktr_room); (case ku => first | (dsimp only [Around.deeper]; omega) | ktr_units); intro t9 h9 tk9 F9 N9; (try dsimp only); (try k_fold)))
  k_with "call ref" => ((with_reducible show wpAny _ _ (call (Value.ref 219) [Value.bytes _ _, Value.bool _]) _ _ _); (refine' law_from16 _ _ _ (by assumption) _ _ _ _ _ _ _ _ _ _ _ _ _ _ _ _ _ _ ?k1 ?k2 ?k3 ?k4 ?k5 ?kK ?kd ?ku ?_; (case k1 => k_asm); (case k2 => k_asm); (case k3 => k_asm); (case k4 => k_asm); (case k5 => k_asm); (case kK => first | exact rfl | assumption); (case kd => first | (dsimp only [Around.deeper]; omega) | ktr_room); (case ku => first | (dsimp only [Around.deeper]; omega) | ktr_units); intro t9 h9 tk9 F9 N9; (try dsimp only); (try k_fold)))
  k_with "call ref" => ((with_reducible show wpAny _ _ (call (Value.ref 233) [Value.bytes _ _, Value.ref _, Value.bool _]) _ _ _); (refine' law_from64 _ _ _ _ _ _ _ (by assumption) ?hw ?hT _ _ _ _ _ _ _ _ _ _ _ _ _ _ _ _ _ _ ?k1 ?k2 ?k3 ?k4 ?km ?k5 ?kK ?kd ?ku ?_; (case k1 => k_asm); (case k2 => k_asm); (case k3 => k_asm); (case k4 => k_asm); (case km => kcf_m); (case hw => assumption); (case hT => assumption); (case k5 => k_asm); (case kK => first | exact rfl | assumption); (case kd => first | (dsimp only [Around.deeper]; omega) | ktr_room); (case ku => first | (dsimp only [Around.deeper]; omega) | ktr_units); intro t9 h9 tk9 F9 N9; (try dsimp only); (try k_fold)))
  k_with "compareOp NotEq ref ref" => first | k_dflt ((refine' ne_rows ?k1 ?k2 ?k3 ?k4 ?k5 ?_; (case k1 => k_asm); (case k2 => k_mem); (case k3 => k_mem); (case k4 => (repeat' (first | exact SameB.nil | refine SameB.cons ?_ ?_ | assumption | rfl))); (case k5 => first | (dsimp only [Around.deeper, ktrTop]; omega) | ktr_units))) | refine stop ?_
  k_with "exec For Name Call cons nil" => k_dflt (refine wpAny_For ?_)
  k_with "exec For Name Name cons nil" => k_dflt (refine wpAny_For ?_)
  k_with "exec For Name Subscript cons nil" => k_dflt (refine wpAny_For ?_)
  k_with "exec For Name List cons nil" => k_dflt (refine wpAny_For ?_)
  k_with "pyIter ref" => refine stop ?_
  k_with "EndJ" => refine stop ?_
  k_with "EndG" => refine stop ?_
  k_with "call builtin:list.append" => k_dflt ((refine' append_V ?k1 ?k2 ?k3 ?k4 ?_; (case k1 => k_asm); (case k2 => k_asm); (case k3 => k_upd); (case k4 => ((try simp only [List.length_append, List.length_cons, List.length_nil]); omega))); intro h9 F9 N9; (try dsimp only))
  k_with "subscriptTail Name Constant ref int" => ((with_reducible show wpAny _ _ (subscriptTail _ _ (Value.ref _) (Value.int 2 _)) _ _ _); k_dflt ((refine' due_item ?N ?m ?D ?j 2 ?hi ?hk ?hr ?_ ?hs; (case N => k_asm); (case m => k_mem); (case D => assumption); (case j => omega); (case hi => exact rfl); (case hk => omega); (case hr => exact rfl); (case hs => with_unfolding_all rfl)); intro t9; (try dsimp only)))
  k_with "subscriptTail Name Name ref int" => ((with_reducible show wpAny _ _ (subscriptTail _ _ (Value.ref _) (Value.int (Nat.cast _) _)) _ _ _); k_dflt ((refine' due_item ?N ?m ?D ?j _ ?hi ?hk ?hr ?_ ?hs; (case N => k_asm); (case m => kcf_m); (case D => first | assumption | exact Due.eight (by assumption)); (case j => omega); (case hi => exact rfl); (case hk => omega); (case hr => assumption); (case hs => with_unfolding_all rfl)); intro t9; (try dsimp only [resO, resV])))
  k_with "call ref" => ((with_reducible show wpAny _ _ (call (Value.ref 240) [Value.int _ _, Value.bytes _ _, Value.bytes _ _]) _ _ _); (refine' toldAny _ _ _ _ _ (by assumption) (by assumption) _ (by assumption) _ (by assumption) _ _ _ _ _ _ _ _ _ _ _ _ _ _ _ _ _ _ ?k1 ?k2 ?k3 ?k4 ?k5 ?XB ?TB ?D ?T0 ?kK ?kd ?ku ?_; (case k1 => k_asm); (case k2 => k_asm); (case k3 => k_asm); (case k4 => k_asm); (case k5 => k_asm); (case XB => assumption); (case TB => assumption); (case D => assumption); (case T0 => assumption); (case kK => first | exact rfl | assumption); (case kd => first | (dsimp only [Around.deeper]; omega) | ktr_room); (case ku => first | (dsimp only [Around.deeper]; omega) | ktr_units); intro t9 g9 h9 tk9 T9 F9 N9 B9 X9 P9 D9; (try dsimp only [resO, resV]); (try k_fold)))
  k_steps
  refine Stop.go (listG (G := fun g => g = g1) [Str.ofString "row", Str.ofString "pair", Str.ofString "tables"] (fun _ nx => nx = _) (by rfl) (by rfl) rfl rfl (by k_asm) (by k_asm) (kv := [_, _, _]) (by rfl) (by k_mem) rfl ?_ ?_ (by passes_own))
  · rintro k v u I oI g' h' tk' nx hv rfl hoff rfl hmem F1 N1
    have hbt : ∃ a t, v = .bytes a t := by
      have hm := List.mem_of_getElem? hv
      simp only [List.mem_cons, List.not_mem_nil, or_false] at hm
      rcases hm with rfl | rfl | rfl | rfl | rfl <;> exact ⟨_, _, rfl⟩
    obtain ⟨a1, t1, rfl⟩ := hbt
    simp only [ov] at F1
    try k_fold
    k_steps
    exact Stop.go (EndJ.next rfl hoff hmem rfl (by k_asm) (by k_asm) (by rfl))
  · rintro u g' h' tk' nx rfl rfl hmem F1 N1
    simp only [ov] at F1
    replace N1 := keepN N1 ((tl, listOf #[.ref t0, .ref t1, .ref t2] nt) :: (t2, listOf (List.toArray ws2) n2) :: (t1, listOf (List.toArray ws1) n1) :: (t0, listOf (List.toArray ws0) n0) :: news) (by kcf_all)
    clear hmem
    try k_fold
    k_steps
    refine Stop.go (listG (G := fun g => g = g') [Str.ofString "row", Str.ofString "pair", Str.ofString "tables", Str.ofString "due"] (DueJ [_] _ _ (fun i vs => Due Ta Tb Tc (KBw.bInts b) (2 + 2 * i) vs)) (by rfl) (by rfl) rfl rfl (by k_asm) (by k_asm) (kv := [_, _, _, _]) (by rfl) (by k_mem) ⟨[_, _], _, Due.two⟩ ?_ ?_ (by passes_own))
    · rintro k v u2 I oI g2 h2 tk2 nx hv rfl hoff ⟨vs, n, hD⟩ hmem2 F2 N2
      have hoff' := hoff
      simp only [List.cons_append, List.nil_append] at N2 hoff'
      simp only [ov] at F2
      have hvs := hD.1
      obtain ⟨ta, T, wsT, nT, hwT, hTl, hmT, hk2, hdT⟩ := tab_pick (Tc := Tc) (ns := KBw.bInts b) N2 hv hw0 hw1 hTa hTb (by k_mem) (by k_mem)
      try k_fold
      k_steps
      refine Stop.go (listG (G := fun g => g = g2) [Str.ofString "row", Str.ofString "pair", Str.ofString "tables", Str.ofString "due", Str.ofString "table"] (DueJ [_, _, _] _ _ (fun i vs => Due Ta Tb Tc (KBw.bInts b) (2 + 2 * k + i) vs)) (by rfl) (by rfl) rfl rfl (by k_asm) (by k_asm) (kv := [_, _, _, _, _]) (by rfl) (by k_mem) ⟨_, _, hD⟩ ?_ ?_ (by passes_own))
      · rintro k3 v u3 I3 oI3 g3 h3 tk3 nx hv3 rfl hoff3 ⟨vs3, n3, hD3⟩ hmem3 F3 N3
        have hoff3' := hoff3
        simp only [List.cons_append, List.nil_append] at N3 hoff3'
        simp only [ov] at F3
        have hvs3 := hD3.1
        obtain ⟨st⟩ := bool_pick hv3
        have hst : cond st 1 0 ≤ 1 := by cases st <;> decide
        try k_fold
        k_steps
        exact Stop.go (EndJ.next rfl (off_same (pre := [_, _, _]) hoff3) (by k_mem) ⟨_, _, hD3.snoc (hdT st)⟩ (by k_asm) (by k_asm) (by rfl))
      · rintro u3 g3 h3 tk3 nx rfl ⟨vs3, n3, hD3⟩ hmem3 F3 N3
        simp only [List.cons_append, List.nil_append] at N3
        simp only [ov] at F3
        try k_fold
        k_steps
        exact Stop.go (EndJ.next rfl (off_same (pre := [_]) hoff) (by k_mem) ⟨_, _, hD3⟩ (by k_asm) (fun p hp => N3 p (.tail _ hp)) (by rfl))
    · rintro u2 g2 h2 tk2 nx rfl ⟨vs, n, hD⟩ hmem2 F2 N2
      simp only [List.cons_append, List.nil_append] at N2
      simp only [ov] at F2
      have hD : Due Ta Tb Tc (KBw.bInts b) 6 vs := hD
      have hvs := hD.1
      try k_fold
      k_steps
      refine Stop.go (rangeG (n := 8) (G := fun g => KtsTurn (FS [envOf cn cs L a ccd]) g2 g ∧ Below (ktrTop dp un gd cn cs L a ccd [] []) base [envOf cn cs L a ccd] g ∧ (hd.heap_39 w.params).In g ∧ Top p loose mean mg mb g ∧ KtsDicts (FS [envOf cn cs L a ccd]) g) [Str.ofString "row", Str.ofString "pair", Str.ofString "due"] (by rfl) (by rfl) rfl (by assumption) (by decide) (by rfl) ⟨KtsTurn.refl, by assumption, by assumption, by assumption, by assumption⟩ (by k_asm) (by k_asm) (kv := [_, _, _]) (by rfl) ?_ ?_ (by passes_own))
      · rintro k t u I oI g3 h3 tk3 hk ⟨hTu, hBe, hKi, hTo, hDi⟩ hlow F3 N3
        simp only [ov] at F3
        rcases hdue k hk with hdk | hdk
        · try k_fold
          k_steps
          all_goals exact Stop.go (EndG.next ⟨by assumption, by assumption, by assumption, by assumption, by assumption⟩ hlow (by k_asm) (by k_asm) (by rfl))
        · cases hr : toldR k b c with
          | none =>
            rw [hr] at hdk
            try k_fold
            k_steps
            all_goals exact Stop.go (EndG.next ⟨by assumption, by assumption, by assumption, by assumption, by assumption⟩ hlow (by k_asm) (by k_asm) (by rfl))
          | some l =>
            rw [hr] at hdk
            try k_fold
            k_steps
            all_goals first
              | exact Stop.go (EndG.next ⟨by assumption, by assumption, by assumption, by assumption, by assumption⟩ hlow (by k_asm) (by k_asm) (by rfl))
              | (exfalso; simp_all; done)
              | fail "x"
      · rintro u g3 h3 tk3 ⟨hTu, hBe, hKi, hTo, hDi⟩ F3 N3
        simp only [ov] at F3
        try k_fold
        k_steps
        exact hret _ _ _ _ _ (by k_asm) (fun p hp => (by k_asm : News _ _ _ _) p (by
          rcases List.mem_cons.mp hp with rfl | hp
          · kcf_m
          · kcf_m)) (fun p hp => Nat.ne_of_lt (allLt_mem (by simp only [*]; done) p hp)) (Due.vals (Due.eight (by assumption)) hb)
end
end

section
open LCg LCt
section
variable {prog : Program} {w : World} {A : Around} {E : Value → Shared → Prop} {s : Shared} {h₀ : Heap} {L : Addr} {m : Str → Option Value} {env : Env}
theorem rest_any {elt : Expr} {x : Str} {scope : Scope} {cl : List (Str × Addr)} {S : List (Addr × Obj) → Prop} {P : Nat → Value → Prop} {Fin : List Value → List (Addr × Obj) → Prop} {n : Nat} {news : List (Addr × Obj)} (V : Value → Prop)
    (turn : ∀ v I oI C oC D m₂ ys h tk (E' : Value → Shared → Prop), (∃ i, i < n ∧ P i v) → NsObj oC m₂ → m₂ x = some v → Fr h₀ L h m → News h₀ L h ((I, oI) :: (C, oC) :: (D, lst ys) :: news) → Off3 I C D news → ((@Ne Nat I C) ∧ (@Ne Nat I D) ∧ (@Ne Nat C D)) →
      wpAny (model prog w) A (eval elt (compEnvC scope cl C env)) (CompEnd h₀ L m { s with heap := h, toks := tk } I oI C oC D (lst ys) S (fun y news' => news' = news ∧ V y)) E' { s with heap := h, toks := tk })
    (fin : ∀ ys, ys.length ≤ n → (∀ y ∈ ys, V y) → Fin ys news) : CompRest prog w A h₀ L m env elt x scope cl s S P Fin n 0 [] news := by
  have key : ∀ (j i : Nat) (ys : List Value), i + j = n → ys.length ≤ i → (∀ y ∈ ys, V y) → CompRest prog w A h₀ L m env elt x scope cl s S P Fin j i ys news := by
    intro j
    induction j with
    | zero => intro i ys hi hl hv; exact CompRest.zero (fin ys (by omega) hv)
    | succ j ih =>
      intro i ys hi hl hv
      refine CompRest.succ ?_
      intro v I oI C oC D m₂ h tk E' hP hC hx F N off ne
      refine wpAny_mono (turn v I oI C oC D m₂ ys h tk E' ⟨i, by omega, hP⟩ hC hx F N off ne) (fun y s₂ hq => ?_) fun _ _ e => e
      obtain ⟨h', tk', nw, e, F', N', off', hS, rfl, hy⟩ := hq
      refine ⟨h', tk', _, e, F', N', off', hS, ih (i + 1) _ (by omega) (by rw [List.length_append, List.length_singleton]; omega) fun z hz => ?_⟩
      rcases List.mem_append.mp hz with h1 | h1
      · exact hv z h1
      · rw [List.mem_singleton.mp h1]; exact hy
  exact key n 0 [] (by omega) (Nat.le_refl _) (fun _ h => nomatch h)
theorem restT_any {ct elt : Expr} {x : Str} {scope : Scope} {cl : List (Str × Addr)} {S : List (Addr × Obj) → Prop} {P : Nat → Value → Prop} {Fin : List Value → List (Addr × Obj) → Prop} {n : Nat} {news : List (Addr × Obj)} (V : Value → Prop)
    (turn : ∀ v I oI C oC D m₂ ys h tk (E' : Value → Shared → Prop), (∃ i, i < n ∧ P i v) → NsObj oC m₂ → m₂ x = some v → Fr h₀ L h m → News h₀ L h ((I, oI) :: (C, oC) :: (D, lst ys) :: news) → Off3 I C D news → ((@Ne Nat I C) ∧ (@Ne Nat I D) ∧ (@Ne Nat C D)) →
      wpAny (model prog w) A (isTrue ct (compEnvC scope cl C env) (eval ct (compEnvC scope cl C env))) (fun ok s' => if ok = true then
        wpAny (model prog w) A (eval elt (compEnvC scope cl C env)) (CompEnd h₀ L m { s with heap := h, toks := tk } I oI C oC D (lst ys) S (fun y news' => news' = news ∧ V y)) E' s'
        else CompEnd h₀ L m { s with heap := h, toks := tk } I oI C oC D (lst ys) S (fun _ news' => news' = news) Value.none s') E' { s with heap := h, toks := tk })
    (fin : ∀ ys, ys.length ≤ n → (∀ y ∈ ys, V y) → Fin ys news) : CompRestT prog w A h₀ L m env ct elt x scope cl s S P Fin n 0 [] news := by
  have key : ∀ (j i : Nat) (ys : List Value), i + j = n → ys.length ≤ i → (∀ y ∈ ys, V y) → CompRestT prog w A h₀ L m env ct elt x scope cl s S P Fin j i ys news := by
    intro j
    induction j with
    | zero => intro i ys hi hl hv; exact CompRestT.zero (fin ys (by omega) hv)
    | succ j ih =>
      intro i ys hi hl hv
      refine CompRestT.succ ?_
      intro v I oI C oC D m₂ h tk E' hP hC hx F N off ne
      refine wpAny_mono (turn v I oI C oC D m₂ ys h tk E' ⟨i, by omega, hP⟩ hC hx F N off ne) (fun ok s₂ hq => ?_) fun _ _ e => e
      cases ok with
      | true =>
        simp only [if_true] at hq ⊢
        refine wpAny_mono hq (fun y s₃ hq => ?_) fun _ _ e => e
        obtain ⟨h', tk', nw, e, F', N', off', hS, rfl, hy⟩ := hq
        refine ⟨h', tk', _, e, F', N', off', hS, ih (i + 1) _ (by omega) (by rw [List.length_append, List.length_singleton]; omega) fun z hz => ?_⟩
        rcases List.mem_append.mp hz with h1 | h1
        · exact hv z h1
        · rw [List.mem_singleton.mp h1]; exact hy
      | false =>
        simp only [Bool.false_eq_true, if_false] at hq ⊢
        obtain ⟨h', tk', nw, e, F', N', off', hS, rfl⟩ := hq
        exact ⟨h', tk', _, e, F', N', off', hS, ih (i + 1) _ (by omega) (by omega) hv⟩
  exact key n 0 [] (by omega) (Nat.le_refl _) (fun _ h => nomatch h)
/-- a row as the source of a comprehension -/
def SrcBy (prog : Program) (w : World) (A : Around) (h₀ : Heap) (L : Addr) (m : Str → Option Value) (Go : Shared → List (Addr × Obj) → Nat → (Nat → Value → Prop) → Prop) (xv : Value) (s₁ : Shared) : Prop :=
  ∃ b t news, xv = .bytes b t ∧ A.handled = none ∧ Fr h₀ L s₁.heap m ∧ News h₀ L s₁.heap news ∧ b.size ≤ sizeLine ∧ ∀ s₂ : Shared, (∃ h, s₂ = { s₁ with heap := h }) → Go s₂ news b.size (fun i v => ∃ c u, b[i]? = some c ∧ v = .int (c.toNat : Int) u)
theorem bytes_st {b : Array UInt8} {t : Tok} {I : Addr} : ∀ i (h h' : Heap) (o : Obj) (nw : List (Addr × Obj)), KBw.IsBytesIter h I b t i → h.get? I = some o → h'.get? I = some o → (∀ b o, h₀.get? b = some o → h'.get? b = some o) → News h₀ L h' nw → True → KBw.IsBytesIter h' I b t i :=
  fun i h h' o nw st e e' _ _ _ => by
    obtain ⟨o', q, r⟩ := st
    rw [e] at q
    cases q
    exact ⟨o, e', r⟩
theorem comp_bytes {elt iter : Expr} {x : Str} {px : Pos} {scope : Scope} {cl : List (Str × Addr)} {pos : Pos} {Q : Value → Shared → Prop} (_F₀ : Fr h₀ L s.heap m)
    (hclos : closureFor scope env = pure cl) (hcell : ∀ y ∈ scope.names, y.2 ≠ .cell) (hkind : scope.kind = .function)
    (hnames : ∀ y ∈ scope.names, y.2 = .local → scope.names.lookup y.1 = some .local) (hx : scope.names.lookup x = some .local)
    (h : wpAny (model prog w) A (eval iter env) (SrcBy prog w A h₀ L m fun s₂ news n P => CompRest prog w A h₀ L m env elt x scope cl s₂ (fun _ => True) P (FinE h₀ L m s₂ Q) n 0 [] news) E s)
    (hs : ∀ x, foldedSetIterable iter env x = pure x := by intro _; rfl) :
    wpAny (model prog w) A (eval (.ListComp elt [⟨.Name x px, iter, [], 0⟩] scope pos) env) Q E s := by
  rw [eval_ListComp]
  refine wpAny_comprehension_free (use := none) rfl hs hclos hkind hnames (wpAny_mono h (fun xv s₁ h₁ => ?_) fun _ _ e => e)
  obtain ⟨b, t, news, rfl, hh, F, N, hsz, R⟩ := h₁
  refine KBw.pyIter_bytes ?_
  have up : ∀ a o, s₁.heap.get? a = some o → (s₁.heap.push { cls := .type "bytes_iterator", data := .fields #[.bytes b t, .int 0 0] }).get? a = some o := fun a o e => Heap.get?_push_of_some _ e
  refine block_U (KBw.walks hh s₁.heap.objs.size b t) hsz (fun i h st => by obtain ⟨o, e, _⟩ := st; exact ⟨o, e⟩) bytes_st hcell hkind hx ⟨_, Heap.get?_push_size _ rfl, rfl, rfl⟩ (fun a ha => ?_)
    (F.keeps up) (N.grown up) (Nat.ne_of_lt F.ns.lt) (next_is_new F) (fun p hp => Nat.ne_of_lt (Heap.lt_size (N p hp).1)) trivial (R _ ⟨_, rfl⟩) ?_
  · rw [List.mem_singleton.mp ha]
    show s₁.heap.objs.size < (s₁.heap.push _).objs.size
    rw [Heap.size_push]
    exact Nat.lt_succ_self _
  · intro D C h tk m' ys news' F' N' o1 hn hC₀ hD₀ hCL hDL hCD offC fin
    refine ⟨m', hn, fun h'' hs'' => fin D h'' tk (F'.change hs'' hCL hC₀) (fun p hp => ?_) o1⟩
    refine ⟨hs''.extBut _ _ ?_ (N' p hp).1, (N' p hp).2⟩
    rcases List.mem_cons.mp hp with rfl | hp
    · exact Ne.symm hCD
    · exact offC p hp
theorem comp_bytesT {ct elt iter : Expr} {x : Str} {px : Pos} {scope : Scope} {cl : List (Str × Addr)} {pos : Pos} {Q : Value → Shared → Prop} (_F₀ : Fr h₀ L s.heap m)
    (hclos : closureFor scope env = pure cl) (hcell : ∀ y ∈ scope.names, y.2 ≠ .cell) (hkind : scope.kind = .function)
    (hnames : ∀ y ∈ scope.names, y.2 = .local → scope.names.lookup y.1 = some .local) (hx : scope.names.lookup x = some .local)
    (h : wpAny (model prog w) A (eval iter env) (SrcBy prog w A h₀ L m fun s₂ news n P => CompRestT prog w A h₀ L m env ct elt x scope cl s₂ (fun _ => True) P (FinE h₀ L m s₂ Q) n 0 [] news) E s)
    (hs : ∀ x, foldedSetIterable iter env x = pure x := by intro _; rfl) :
    wpAny (model prog w) A (eval (.ListComp elt [⟨.Name x px, iter, [ct], 0⟩] scope pos) env) Q E s := by
  rw [eval_ListComp]
  refine wpAny_comprehension_free (use := none) rfl hs hclos hkind hnames (wpAny_mono h (fun xv s₁ h₁ => ?_) fun _ _ e => e)
  obtain ⟨b, t, news, rfl, hh, F, N, hsz, R⟩ := h₁
  refine KBw.pyIter_bytes ?_
  have up : ∀ a o, s₁.heap.get? a = some o → (s₁.heap.push { cls := .type "bytes_iterator", data := .fields #[.bytes b t, .int 0 0] }).get? a = some o := fun a o e => Heap.get?_push_of_some _ e
  refine block_T (KBw.walks hh s₁.heap.objs.size b t) hsz (fun i h st => by obtain ⟨o, e, _⟩ := st; exact ⟨o, e⟩) bytes_st hcell hkind hx ⟨_, Heap.get?_push_size _ rfl, rfl, rfl⟩ (fun a ha => ?_)
    (F.keeps up) (N.grown up) (Nat.ne_of_lt F.ns.lt) (next_is_new F) (fun p hp => Nat.ne_of_lt (Heap.lt_size (N p hp).1)) trivial (R _ ⟨_, rfl⟩) ?_
  · rw [List.mem_singleton.mp ha]
    show s₁.heap.objs.size < (s₁.heap.push _).objs.size
    rw [Heap.size_push]
    exact Nat.lt_succ_self _
  · intro D C h tk m' ys news' F' N' o1 hn hC₀ hD₀ hCL hDL hCD offC fin
    refine ⟨m', hn, fun h'' hs'' => fin D h'' tk (F'.change hs'' hCL hC₀) (fun p hp => ?_) o1⟩
    refine ⟨hs''.extBut _ _ ?_ (N' p hp).1, (N' p hp).2⟩
    rcases List.mem_cons.mp hp with rfl | hp
    · exact Ne.symm hCD
    · exact offC p hp
end
/-- an octet -/
def IsOctet (v : Value) : Prop := ∃ k t, v = .int k t ∧ 0 ≤ k ∧ k < 256
theorem octets {ys : List Value} (h : ∀ y ∈ ys, IsOctet y) : ∃ ns, IntsAre ys ns ∧ ∀ v ∈ ns, 0 ≤ v ∧ v < 256 := by
  induction ys with
  | nil => exact ⟨[], .nil, fun _ h => nomatch h⟩
  | cons y ys ih =>
    obtain ⟨ns, hn, hr⟩ := ih fun z hz => h z (.tail _ hz)
    obtain ⟨k, t, rfl, hk⟩ := h y (.head _)
    exact ⟨k :: ns, .cons _ _ hn, fun v hv => by
      rcases List.mem_cons.mp hv with rfl | hv
      · exact hk
      · exact hr v hv⟩
section
variable {prog : Program} {w : World} {A : Around} {E : Value → Shared → Prop} {s : Shared} {h₀ : Heap} {L : Addr} {m : Str → Option Value} {news : List (Addr × Obj)} {value slice : PySem.Expr} {b c : Array UInt8} {t u : Tok} {Q : Value → Shared → Prop} {l r : Value} {lo hi : Option Int}
theorem slice_R (hF : Fr h₀ L s.heap m) (hN : News h₀ L s.heap news) (hl : IsPart l lo) (hu : IsPart r hi) (hz : b.size ≤ 1000)
    (h : ∀ h' t' k b', b'.size ≤ b.size → Fr h₀ L h' m → News h₀ L h' news → Q (.bytes b' t') { s with heap := h', toks := k })
    (hs : subscripted slice false (.bytes b t) (.ref s.heap.objs.size) = operate [.ref s.heap.objs.size, .bytes b t] (getItem (.bytes b t) (.ref s.heap.objs.size)))
    (ht : ∀ r, letTemporaryGo value (.bytes b t) r = pure ()) :
    wpAny (model prog w) A (subscriptTail value slice (.bytes b t) (.ref s.heap.objs.size)) Q E { s with heap := s.heap.push { cls := .type "slice", data := .fields #[l, r, .none] } } :=
  KBc.slice_K hF hN rfl hl hu (by rw [KBw.ints_length]; omega) (fun h' t' k F' N' _ => h h' t' k _ (KBc.size_picked_le b lo hi) F' N') hs ht
theorem slice_12 (hF : Fr h₀ L s.heap m) (hN : News h₀ L s.heap news) (hl : IsPart l none) (hu : IsPart r (some 12)) (hz : b.size ≤ 1000)
    (h : ∀ h' t' k b', b'.size ≤ 12 → Fr h₀ L h' m → News h₀ L h' news → Q (.bytes b' t') { s with heap := h', toks := k })
    (hs : subscripted slice false (.bytes b t) (.ref s.heap.objs.size) = operate [.ref s.heap.objs.size, .bytes b t] (getItem (.bytes b t) (.ref s.heap.objs.size)))
    (ht : ∀ r, letTemporaryGo value (.bytes b t) r = pure ()) :
    wpAny (model prog w) A (subscriptTail value slice (.bytes b t) (.ref s.heap.objs.size)) Q E { s with heap := s.heap.push { cls := .type "slice", data := .fields #[l, r, .none] } } :=
  KBc.slice_K hF hN rfl hl hu (by rw [KBw.ints_length]; omega) (fun h' t' k F' N' e => h h' t' k _ (by
    rw [← KBw.ints_length, e, List.length_take]
    have := KBc.clip_lit (KBw.bInts b).length 12
    simp only [Option.elim]
    rw [show clipAt (KBw.bInts b).length 12 = min 12 (KBw.bInts b).length from this]
    omega) F' N') hs ht
theorem add_R (hz : b.size + c.size ≤ 1000) (h : ∀ t' k b', b'.size = b.size + c.size → Q (.bytes b' t') { s with toks := k }) : wpAny (model prog w) A (binaryOp .Add (.bytes b t) (.bytes c u)) Q E s :=
  KBa.add_K rfl rfl (by rw [KBw.ints_length, KBw.ints_length]; omega) fun t' k _ => h t' k _ Array.size_append
end
theorem spec64_size (c b : Array UInt8) (hb : b.size ≤ 12) : (byteArr (spec64 c (KBw.bInts b))).size ≤ 24 := by
  rw [byteArr_size]
  unfold spec64
  rw [pad4_len, List.length_map]
  have := places_len (KBw.bInts b)
  rw [KBw.ints_length] at this
  unfold pads
  omega
theorem six_size (b : Array UInt8) (hb : b.size ≤ 12) : (byteArr ((regGroups 8 4 (KBw.bInts b)).map sgn16)).size ≤ 24 := by
  rw [byteArr_size, List.length_map, regGroups_len, KBw.ints_length]
  omega
end

theorem reset33 : True := by
  w_top off
  k_with_none
  trivial
section
/-- a def that gives back some row of twelve octets at most -/
abbrev RetRow (h₀ : Heap) (L : Addr) (m : Str → Option Value) (news : List (Addr × Obj)) (s : Shared) (Q : Value → Shared → Prop) : Prop :=
  ∀ (b : Array UInt8) (t : Tok) (h' : Heap) (tk' : Nat), b.size ≤ 12 → Fr h₀ L h' m → News h₀ L h' news → Q (.bytes b t) { s with heap := h', toks := tk' }
theorem retRow {h₀ h' : Heap} {L : Addr} {m : Str → Option Value} {news news' : List (Addr × Obj)} {s : Shared} {Q : Value → Shared → Prop} {b : Array UInt8} {t : Tok} {tk' : Nat} (hret : RetRow h₀ L m news s Q) (hb : b.size ≤ 12) (F : Fr h₀ L h' m) (N : News h₀ L h' news') (hs : ∀ p ∈ news, p ∈ news') : Q (.bytes b t) { s with heap := h', toks := tk' } :=
  hret b t h' tk' hb F fun p hp => N p (hs p hp)
theorem octet_nat (c : UInt8) : 0 ≤ (c.toNat : Int) ∧ (c.toNat : Int) < 256 := by
  have := c.toNat_lt
  omega
def DueV (v : Value) : Prop := ∃ r t, v = resO r t ∧ ∀ l, r = some (some l) → l.length ≤ 12
def RowV (v : Value) : Prop := ∃ b t, v = .bytes b t ∧ b.size ≤ 12
section
variable {prog : Program} {w : World} {A : Around} {E : Value → Shared → Prop} {s : Shared} {h₀ : Heap} {L l r : Addr} {news : List (Addr × Obj)} {value slice : PySem.Expr} {Q : Value → Shared → Prop}
theorem ans_item {vs : List Value} {n : Nat} {i : Int} {u : Tok} (N : News h₀ L s.heap news) (hm : (l, listOf (List.toArray vs) n) ∈ news) (hv : DueVals vs) (h0 : 0 ≤ i) (h1 : i < 8) (h : ∀ v, DueV v → Q v s)
    (hs : subscripted slice false (.ref l) (.int i u) = operate [.ref l, .int i u] (getItem (.ref l) (.int i u))) : wpAny (model prog w) A (subscriptTail value slice (.ref l) (.int i u)) Q E s := by
  have hl : i.toNat < vs.length := by rw [hv.1]; omega
  have hl' := News.isList N hm
  exact tail_any hl'.typeIs slot_list_getitem.lookup (wpAny_getItem_list hl' h0 (by omega) (by rw [List.getElem?_toArray]; exact List.getElem?_eq_getElem hl) (h _ (hv.2 _ (List.getElem_mem hl)))) hs
theorem ne_longer {z : Value} {zs : List Value} {n n' : Nat} (N : News h₀ L s.heap news) (hl : (l, listOf (List.toArray (z :: zs)) n) ∈ news) (hr : (r, listOf #[] n') ∈ news) (hu : A.units < cLine)
    (h : Q (.bool true) s) : wpAny (model prog w) A (compareOp .NotEq (.ref l) (.ref r)) Q E s := by
  have hL := (N _ hl).1
  have hR := (N _ hr).1
  exact cmp_ofNotEq (richCompare_meets_room (op := .NotEq) ⟨_, hL, rfl⟩ ⟨_, hR, rfl⟩ F.slot_list_ne F.entry_list_ne (F.args_list_ne_2 _ _) (SeqAt.list_ne_lengthsAt l r (z :: zs).toArray #[] n n' none none #[] #[] (by simp)) ⟨hL, hR, by simp, h⟩ hu)
theorem ne_empty {n n' : Nat} (N : News h₀ L s.heap news) (hl : (l, listOf (List.toArray []) n) ∈ news) (hr : (r, listOf #[] n') ∈ news) (hu : A.units < cLine)
    (h : Q (.bool false) s) : wpAny (model prog w) A (compareOp .NotEq (.ref l) (.ref r)) Q E s := ne_rows N hl hr .nil hu h
end
theorem tok_any {o : Obj} {v : Int} {t : Tok} (d : o.data = Data.cell (some (.int v t))) : ∃ t', o.data = Data.cell (some (.int v t')) := ⟨t, d⟩
/-- behind the choice: the row's cell holds some short row -/
inductive RowB (g : Heap) (L c : Addr) (news : List (Addr × Obj)) (s : Shared) : Flow → Shared → Prop
  | mk (b : Array UInt8) (t : Tok) (h' : Heap) (tk' : Nat) (m' : Str → Option Value) (oR : Obj) : b.size ≤ 100 → Fr g L h' m' → News g L h' ((c, oR) :: news) → oR.data = Data.cell (some (.bytes b t)) → RowB g L c news s .next { s with heap := h', toks := tk' }
theorem RowB.next {g : Heap} {L c : Addr} {news nx : List (Addr × Obj)} {s : Shared} {b : Array UInt8} {t : Tok} {h' : Heap} {tk' : Nat} {m' : Str → Option Value} {oR : Obj} (hb : b.size ≤ 100) (F : Fr g L h' m') (N : News g L h' nx) (hm : (c, oR) ∈ nx) (hs : ∀ p ∈ news, p ∈ nx) (d : oR.data = Data.cell (some (.bytes b t))) :
    RowB g L c news s .next { s with heap := h', toks := tk' } :=
  .mk b t h' tk' m' oR hb F (fun p hp => by
    rcases List.mem_cons.mp hp with rfl | hp
    · exact N _ hm
    · exact N p (hs p hp)) d
section
variable {prog : Program} {w : World} {p : Program} {loose : List Str} {mean : ExcName → Option Value} {mg mb : Str → Option Value}
theorem law_done (deed : Int) (td : Tok) (b c : Array UInt8) (tb tc : Tok) (al : Addr) (vs : List Value) (n : Nat) (hd0 : 0 ≤ deed) (hd1 : deed < 100000) (hb : b.size ≤ 12) (hc : c.size = 2) (hv : DueVals vs)
    (dp un : Nat) (gd : Option (List Code)) (cn : Str) (cs : Scope) (a : Addr) (ccd : Value) (cl : List (Str × Addr)) (outer : List Env) (A₀ : Around) (base h₀ : Heap) (L : Addr) (m : Str → Option Value) (news : List (Addr × Obj)) (s : Shared) (Q E : Value → Shared → Prop)
    (hB : Below A₀ base outer h₀) (hF : Fr h₀ L s.heap m) (hX : (hd.heap_39 w.params).In h₀) (hN : News h₀ L s.heap ((al, listOf (List.toArray vs) n) :: news)) (hT : Top p loose mean mg mb h₀) (hcs : cs.kind = .function)
    (hdp : dp + 3 < recursionLimit) (hun : un + 8 * 3 < cLine) (hret : RetRow h₀ L m news s Q) :
      wpAny (model prog w) (ktrTop dp un gd cn cs L a ccd cl outer) (call (.ref 252) [.int deed td, .bytes b tb, .bytes c tc, .ref al]) Q E s := by
  refine wpAny_call ?_
  (refine' code_defC ?k1 ?k2 ?k3 ?k4 ?k5 ?kA ?kF ?kK ?k6 ?k7 ?k8 ?k9 ?kB ?kD ?_ ?c2 ?c3 ?c4; (case kA => exact rfl); (case kF => exact rfl); (case kK => assumption); (case k1 => k_asm); (case k2 => k_asm); (case k3 => k_asm); (case k4 => k_asm); (case k5 => k_asm); (case k6 => k_is); (case k7 => k_is); (case k8 => first | (dsimp only [ktrTop]; omega) | ktr_room); (case k9 => first | exact BindsTo.of_eq rfl | exact binds_K (by k_in) rfl (by k_is) rfl rfl rfl); (case kB => exact rfl); (case kD => decide +kernel); (case c2 => exact rfl); (case c3 => exact rfl); (case c4 => exact rfl); k_whole; intro g1 L1 h1 tk1 cells1 FG1 F1 N1 Y1 B1 X1 T1 l1; have lowM := Low.mk l1; (repeat replace lowM := Low.tail lowM); (try k_lt l1); k_cells Y1; (try simp only [List.cons_append, List.nil_append] at N1); (try dsimp only); (try k_lift B1); (try k_fold)  )
  (refine hide_def (P := LeaveK _ _ _ _ _) ?_; intro K9 X9 hR9; (try dsimp only))
  (refine let_around ?_; intro A9)
  k_with_none
  k_with "exec If" => (with_reducible refine wpAny_If ?_)
  k_with "isTrue Compare" => ((with_reducible show wpAny _ _ (isTrue (Expr.Compare (Expr.Name _ _) [CmpOp.Eq] [Expr.Constant (Const.int _) _ _] _) _ _) _ _ _); k_dflt (refine' test_eq ?F ?v ?_ ?a ?b ?d; (case F => k_asm); (case a => rfl); (case b => rfl); (case d => decide); (case v => rfl)); (try dsimp only))
  k_with "isTrue Compare" => ((with_reducible show wpAny _ _ (isTrue (Expr.Compare (Expr.Name _ _) [CmpOp.NotEq] [Expr.Constant (Const.int _) _ _] _) _ _) _ _ _); k_dflt (refine' test_ne ?F ?v ?_ ?a ?b ?d; (case F => k_asm); (case a => rfl); (case b => rfl); (case d => decide); (case v => rfl)); (try dsimp only))
  k_with "isTrue Compare" => ((with_reducible show wpAny _ _ (isTrue (Expr.Compare (Expr.Name _ _) [CmpOp.Lt] [Expr.Constant (Const.int _) _ _] _) _ _) _ _ _); k_dflt (refine' test_lt ?F ?v ?_ ?a ?b ?d; (case F => k_asm); (case a => rfl); (case b => rfl); (case d => decide); (case v => rfl)); (try dsimp only))
  k_with "isTrue Compare" => ((with_reducible show wpAny _ _ (isTrue (Expr.Compare (Expr.Name _ _) [CmpOp.LtE] [Expr.Constant (Const.int _) _ _] _) _ _) _ _ _); k_dflt (refine' test_le ?F ?v ?_ ?a ?b ?d; (case F => k_asm); (case a => rfl); (case b => rfl); (case d => decide); (case v => rfl)); (try dsimp only))
  k_with "isTrue Compare" => ((with_reducible show wpAny _ _ (isTrue (Expr.Compare (Expr.Name _ _) [CmpOp.GtE] [Expr.Constant (Const.int _) _ _] _) _ _) _ _ _); k_dflt (refine' test_ge ?F ?v ?_ ?a ?b ?d; (case F => k_asm); (case a => rfl); (case b => rfl); (case d => decide); (case v => rfl)); (try dsimp only))
  k_with "Thn" => first | (refine hK9 _ _ ?_; (try clear hK9); (try dsimp only)) | (refine hK9 _ ?_; (try clear hK9); (try dsimp only))
  k_with "Rtn" => (refine hR9 _ _ ?_)
  k_with "Trn" => (refine hN9 _ _ ?_; (try dsimp only))
  k_with "ThB" => refine thb_ite ?_
  k_with "ThB true" => (refine hT9 _ ?_; (try clear hT9 hF9); (try dsimp only [List.cons_append, List.nil_append, List.append_nil]))
  k_with "ThB false" => (refine hF9 _ ?_; (try clear hT9 hF9); (try dsimp only [List.cons_append, List.nil_append, List.append_nil]))
  k_with "execs cons If" => (refine flat_if ?_; intro K9 hT9 hF9)
  k_with "execs cons If" => k_dflt ((first | (refine' if_pb (lit := false) (n := 6) ?F ?c ?_ ?_; (case F => k_asm); (case c => exact rfl)) | (refine' if_p (lit := false) (n := 6) ?F ?c ?_ ?_; (case F => k_asm); (case c => exact rfl))); (all_goals (intro k9 hb9; first | (exfalso; omega) | dsimp only [List.cons_append, List.nil_append, List.append_nil] | skip)))
  k_with "execs cons If" => k_dflt ((first | (refine' if_T (lit := true) (n := 6) ?F ?c ?_; (case F => k_asm); (case c => exact rfl)) | (refine' if_F (lit := true) (n := 6) ?F ?c ?_; (case F => k_asm); (case c => exact rfl))); intro k9; (try dsimp only [List.cons_append, List.nil_append, List.append_nil]))
  k_with "execs cons If" => k_dflt (refine' if_p (lit := true) (n := 6) ?F ?c ?_ ?_; (case F => k_asm); (case c => exact rfl); (all_goals (intro k9 hb9; first | (exfalso; omega) | dsimp only [List.cons_append, List.nil_append, List.append_nil] | skip)))
  k_with "execs cons Assign" => ((fail_if_success (with_reducible show wpAny _ _ (execs (Stmt.Assign _ (Expr.ListComp _ _ _ _) _ :: _) _) _ _ _)); refine' flat_asg ?_ ?s; (case s => exact rfl); intro K9 hK9)
  k_with "execs cons Assign" => k_dflt (refine' asg_ev (n := 6) ?F ?N ?L ?x ?s ?e ?_; (case F => k_asm); (case N => k_asm); (case L => exact rfl); (case x => exact rfl); (case s => exact rfl); (case e => exact rfl); intro t9 k9 h' m9 F' N'; (try dsimp only); (try k_sweep))
  k_with "storeName" => k_dflt (refine' store_ev ?F ?N ?L ?x ?_; (case F => k_asm); (case N => k_asm); (case L => exact rfl); (case x => exact rfl); intro h' k9 m9 F' N'; (try dsimp only); (try k_sweep))
  k_with "execs cons Return" => (refine flat_ret ?_; intro K9 hK9)
  k_with "execs cons Return" => k_dflt (refine' ret_ev (n := 6) ?F ?e ?_; (case F => k_asm); (case e => exact rfl); intro t9 k9; (try dsimp only))
  k_with "execs cons Expr" => (refine' flat_expr ?_ ?i ?s; (case i => exact rfl); (case s => exact rfl); intro K9 hK9)
  k_with "execs cons Raise" => refine flat_raise ?_
  k_with "execs cons Continue" => refine flat_cont ?_
  k_with "spliced" => plain_pass; k_dflt (refine' args_ev (n := 6) ?F ?e ?_; (case F => k_asm); (case e => exact rfl); intro t9 k9; (try dsimp only [vals, List.cons_append, List.nil_append]))
  k_with "eval Call Name" => plain_pass; k_dflt (refine' callN_ev (n := 6) ?F ?X ?T ?f ?v ?w ?g ?e ?_ ?a ?b ?d; (case F => k_asm); (case e => exact rfl); (case b => exact rfl); (case X => k_asm); (case T => k_asm); (case a => exact rfl); (case f => k_is); (case v => boot_fast); (case w => exact rfl); (case g => decide); (case d => decide); intro t9 k9; (try dsimp only [vals]))
  k_with "eval Call Name" => plain_pass; k_dflt (refine' call_ev (n := 6) ?F ?X ?T ?f ?k ?e ?_ ?a ?b ?d; (case F => k_asm); (case e => exact rfl); (case b => exact rfl); (case X => k_asm); (case T => k_asm); (case a => exact rfl); (case f => k_is); (case k => k_is); (case d => decide); intro t9 k9; (try dsimp only [vals]))
  k_with "call ref" => ((with_reducible show wpAny _ _ (call (Value.ref 207) [Value.bytes _ _]) _ _ _); (refine' law_sixteen _ _ (by assumption) _ _ _ _ _ _ _ _ _ _ _ _ _ _ _ _ _ _ ?k1 ?k2 ?k3 ?k4 ?k5 ?kK ?kd ?ku ?_; (case k1 => k_asm); (case k2 => k_asm); (case k3 => k_asm); (case k4 => k_asm); (case k5 => k_asm); (case kK => first | exact rfl | assumption); (case kd => first | (dsimp only [Around.deeper]; omega) | ktr_room); (case ku => first | (dsimp only [Around.deeper]; omega) | ktr_units); intro t9 h9 tk9 F9 N9; (try dsimp only); (try k_fold)))
  k_with "call ref" => ((with_reducible show wpAny _ _ (call (Value.ref 212) [Value.bytes _ _, Value.bytes _ _]) _ _ _); (refine' law_sixty_four _ _ _ _ (by assumption) (by first | assumption | rfl) _ _ _ _ _ _ _ _ _ _ _ _ _ _ _ _ _ _ ?k1 ?k2 ?k3 ?k4 ?k5 ?kK ?kd ?ku ?_; (case k1 => k_asm); (case k2 => k_asm); (case k3 => k_asm); (case k4 => k_asm); (case k5 => k_asm); (case kK => first | exact rfl | assumption); (case kd => first | (dsimp only [Around.deeper]; omega) | ktr_room); (case ku => first | (dsimp only [Around.deeper]; omega) | ktr_units); intro t9 h9 tk9 F9 N9; (try dsimp only); (try k_fold)))
  k_with "binaryOp Mult int int" => ((with_reducible refine mul_pow ?k1 ?_); (case k1 => omega))
  k_with "binaryOp FloorDiv int int" => first | (refine div_c ?k1 ?k2 ?_; (case k1 => decide); (case k2 => decide)) | (refine div_pow ?k1 ?_; (case k1 => omega)) | fail "div"
  k_with "binaryOp Mod int int" => first | (refine mod_c ?k1 ?_; (case k1 => decide)) | refine mod_pow ?_ | fail "mod"
  k_with "binaryOp Pow int int" => (refine pow_2 ?k1 ?k2 ?_; (case k1 => first | exact room_ge (by decide) (by assumption) (by assumption) | omega); (case k2 => first | exact room_le (by decide) (by decide) (by assumption) (by assumption) (by assumption) | omega))
  k_with "exec Assign cons ListComp" => refine stop ?_
  k_with "eval ListComp" => (k_here; (with_reducible show wpAny _ _ (eval (Expr.ListComp _ [⟨Expr.Name _ _, Expr.Name _ _, [], 0⟩] _ _) _) _ _ _); k_dflt (refine comp_bytes (_F₀ := by k_asm) (by with_unfolding_all rfl) (by decide) (by rfl) (by decide) (by rfl) ?_))
  k_with "eval ListComp" => (k_here; (with_reducible show wpAny _ _ (eval (Expr.ListComp _ [⟨Expr.Name _ _, Expr.Name _ _, [_], 0⟩] _ _) _) _ _ _); k_dflt (refine comp_bytesT (_F₀ := by k_asm) (by with_unfolding_all rfl) (by decide) (by rfl) (by decide) (by rfl) ?_))
  k_with "SrcBy" => refine stop ?_
  k_with "binaryOp Add bytes bytes" => ((refine' add_R ?k1 ?_; (case k1 => ((try simp only [byteArr_size, List.size_toArray, List.length_cons, List.length_nil]); omega))); intro t9 k9 b9 hb9; (try simp only [byteArr_size, List.size_toArray, List.length_cons, List.length_nil] at hb9); (try dsimp only))
  k_with "subscriptTail Name Slice bytes ref" => ((with_reducible show wpAny _ _ (subscriptTail _ _ (Value.bytes _ _) (Value.ref _)) _ _ _); k_dflt ((refine' slice_R (s := ⟨_, _, _, _, _⟩) ?k1 ?k2 ?k3 ?k4 ?k5 ?_ ?k6 ?k7; (case k1 => k_asm); (case k2 => k_asm); (case k3 => constructor); (case k4 => constructor); (case k5 => first | omega | exact Nat.le_trans (spec64_size _ _ (by assumption)) (by decide) | exact Nat.le_trans (six_size _ (by assumption)) (by decide)); (case k6 => with_unfolding_all rfl); (case k7 => (intro _; with_unfolding_all rfl))); intro h9 t9 k9 b9 hb9 F9 N9; (try dsimp only)))
  k_with "subscriptTail Name Slice bytes ref" => ((with_reducible show wpAny _ _ (subscriptTail _ (Expr.Slice none (some (Expr.Constant (Const.int 12) _ _)) none _) (Value.bytes _ _) (Value.ref _)) _ _ _); k_dflt ((refine' slice_12 (s := ⟨_, _, _, _, _⟩) ?k1 ?k2 ?k3 ?k4 ?k5 ?_ ?k6 ?k7; (case k1 => k_asm); (case k2 => k_asm); (case k3 => constructor); (case k4 => constructor); (case k5 => first | omega | exact Nat.le_trans (spec64_size _ _ (by assumption)) (by decide) | exact Nat.le_trans (six_size _ (by assumption)) (by decide)); (case k6 => with_unfolding_all rfl); (case k7 => (intro _; with_unfolding_all rfl))); intro h9 t9 k9 b9 hb9 F9 N9; (try dsimp only)))
  k_with "call type:bytes" => refine stop ?_
  k_with "subscriptTail Name BinOp bytes int" => ((with_reducible show wpAny _ _ (subscriptTail _ _ (Value.bytes _ _) (Value.int _ _)) _ _ _); k_dflt ((refine' KBw.item_K (ks := KBw.bInts _) rfl ?k1 ?k2 ?k3 ?_ ?k4 ?k5; (case k1 => (rw [KBw.ints_length]; omega)); (case k2 => omega); (case k3 => (rw [KBw.ints_length]; omega)); (case k4 => with_unfolding_all rfl); (case k5 => (intro _; with_unfolding_all rfl))); intro t9 k9 x9 y9; (try dsimp only)))
  k_with "CompSrc" => refine stop ?_
  k_with "CompSrcT" => refine stop ?_
  k_with "CompEnd" => refine stop ?_
  k_with "subscriptTail Name BinOp ref int" => ((with_reducible show wpAny _ _ (subscriptTail _ _ (Value.ref _) (Value.int _ _)) _ _ _); k_dflt ((refine' ans_item ?k1 ?k2 ?k3 ?k4 ?k5 ?_ ?k6; (case k1 => k_asm); (case k2 => kcf_m); (case k3 => assumption); (case k4 => omega); (case k5 => omega); (case k6 => with_unfolding_all rfl)); intro v9 hv9; (try dsimp only)))
  k_with "compareOp NotEq ref ref" => (k_dflt (first | (refine' ne_longer ?k1 ?k2 ?k3 ?k5 ?_; (case k1 => k_asm); (case k2 => k_mem); (case k3 => k_mem); (case k5 => first | (dsimp +zetaDelta only [Around.deeper, ktrTop]; omega) | ktr_units)) | (refine' ne_empty ?k1 ?k2 ?k3 ?k5 ?_; (case k1 => k_asm); (case k2 => k_mem); (case k3 => k_mem); (case k5 => first | (dsimp +zetaDelta only [Around.deeper, ktrTop]; omega) | ktr_units)) | fail "ne"))
  k_with "execs cons If" => refine stop ?_
  k_with "RowB" => refine stop ?_
  k_steps
  (rename _ = Data.cell (some (Value.int _ _)) => dP)
  obtain ⟨tP, dP⟩ := tok_any dP
  refine Stop.go (wpAny_execs_cons ?_)
  refine (wpAny_mono (Q := RowB g1 L1 (L1 + 1) news s) ?_ (fun f s2 hf => ?_) fun _ _ e => e)
  rotate_left
  · obtain ⟨b2, t2, h2, tk2, m2, oR, hb2, F2, N2, d2⟩ := hf
    dsimp only
    try k_fold
    k_steps
    ((rename Fr _ _ _ _ => kF9); (rename News _ _ _ _ => kN9); exact retRow hret (by assumption) kF9 kN9 (by intro p hp; kcf_m))
  k_with_none
  k_with "exec If" => (with_reducible refine wpAny_If ?_)
  k_with "isTrue Compare" => ((with_reducible show wpAny _ _ (isTrue (Expr.Compare (Expr.Name _ _) [CmpOp.Eq] [Expr.Constant (Const.int _) _ _] _) _ _) _ _ _); k_dflt (refine' test_eq ?F ?v ?_ ?a ?b ?d; (case F => k_asm); (case a => rfl); (case b => rfl); (case d => decide); (case v => rfl)); (try dsimp only))
  k_with "isTrue Compare" => ((with_reducible show wpAny _ _ (isTrue (Expr.Compare (Expr.Name _ _) [CmpOp.NotEq] [Expr.Constant (Const.int _) _ _] _) _ _) _ _ _); k_dflt (refine' test_ne ?F ?v ?_ ?a ?b ?d; (case F => k_asm); (case a => rfl); (case b => rfl); (case d => decide); (case v => rfl)); (try dsimp only))
  k_with "isTrue Compare" => ((with_reducible show wpAny _ _ (isTrue (Expr.Compare (Expr.Name _ _) [CmpOp.Lt] [Expr.Constant (Const.int _) _ _] _) _ _) _ _ _); k_dflt (refine' test_lt ?F ?v ?_ ?a ?b ?d; (case F => k_asm); (case a => rfl); (case b => rfl); (case d => decide); (case v => rfl)); (try dsimp only))
  k_with "isTrue Compare" => ((with_reducible show wpAny _ _ (isTrue (Expr.Compare (Expr.Name _ _) [CmpOp.LtE] [Expr.Constant (Const.int _) _ _] _) _ _) _ _ _); k_dflt (refine' test_le ?F ?v ?_ ?a ?b ?d; (case F => k_asm); (case a => rfl); (case b => rfl); (case d => decide); (case v => rfl)); (try dsimp only))
  k_with "isTrue Compare" => ((with_reducible show wpAny _ _ (isTrue (Expr.Compare (Expr.Name _ _) [CmpOp.GtE] [Expr.Constant (Const.int _) _ _] _) _ _) _ _ _); k_dflt (refine' test_ge ?F ?v ?_ ?a ?b ?d; (case F => k_asm); (case a => rfl); (case b => rfl); (case d => decide); (case v => rfl)); (try dsimp only))
  k_with "Thn" => first | (refine hK9 _ _ ?_; (try clear hK9); (try dsimp only)) | (refine hK9 _ ?_; (try clear hK9); (try dsimp only))
  k_with "Rtn" => (refine hR9 _ _ ?_)
  k_with "Trn" => (refine hN9 _ _ ?_; (try dsimp only))
  k_with "ThB" => refine thb_ite ?_
  k_with "ThB true" => (refine hT9 _ ?_; (try clear hT9 hF9); (try dsimp only [List.cons_append, List.nil_append, List.append_nil]))
  k_with "ThB false" => (refine hF9 _ ?_; (try clear hT9 hF9); (try dsimp only [List.cons_append, List.nil_append, List.append_nil]))
  k_with "execs cons If" => (refine flat_if ?_; intro K9 hT9 hF9)
  k_with "execs cons If" => k_dflt ((first | (refine' if_pb (lit := false) (n := 6) ?F ?c ?_ ?_; (case F => k_asm); (case c => exact rfl)) | (refine' if_p (lit := false) (n := 6) ?F ?c ?_ ?_; (case F => k_asm); (case c => exact rfl))); (all_goals (intro k9 hb9; first | (exfalso; omega) | dsimp only [List.cons_append, List.nil_append, List.append_nil] | skip)))
  k_with "execs cons If" => k_dflt ((first | (refine' if_T (lit := true) (n := 6) ?F ?c ?_; (case F => k_asm); (case c => exact rfl)) | (refine' if_F (lit := true) (n := 6) ?F ?c ?_; (case F => k_asm); (case c => exact rfl))); intro k9; (try dsimp only [List.cons_append, List.nil_append, List.append_nil]))
  k_with "execs cons If" => k_dflt (refine' if_p (lit := true) (n := 6) ?F ?c ?_ ?_; (case F => k_asm); (case c => exact rfl); (all_goals (intro k9 hb9; first | (exfalso; omega) | dsimp only [List.cons_append, List.nil_append, List.append_nil] | skip)))
  k_with "execs cons Assign" => ((fail_if_success (with_reducible show wpAny _ _ (execs (Stmt.Assign _ (Expr.ListComp _ _ _ _) _ :: _) _) _ _ _)); refine' flat_asg ?_ ?s; (case s => exact rfl); intro K9 hK9)
  k_with "execs cons Assign" => k_dflt (refine' asg_ev (n := 6) ?F ?N ?L ?x ?s ?e ?_; (case F => k_asm); (case N => k_asm); (case L => exact rfl); (case x => exact rfl); (case s => exact rfl); (case e => exact rfl); intro t9 k9 h' m9 F' N'; (try dsimp only); (try k_sweep))
  k_with "storeName" => k_dflt (refine' store_ev ?F ?N ?L ?x ?_; (case F => k_asm); (case N => k_asm); (case L => exact rfl); (case x => exact rfl); intro h' k9 m9 F' N'; (try dsimp only); (try k_sweep))
  k_with "execs cons Return" => (refine flat_ret ?_; intro K9 hK9)
  k_with "execs cons Return" => k_dflt (refine' ret_ev (n := 6) ?F ?e ?_; (case F => k_asm); (case e => exact rfl); intro t9 k9; (try dsimp only))
  k_with "execs cons Expr" => (refine' flat_expr ?_ ?i ?s; (case i => exact rfl); (case s => exact rfl); intro K9 hK9)
  k_with "execs cons Raise" => refine flat_raise ?_
  k_with "execs cons Continue" => refine flat_cont ?_
  k_with "spliced" => plain_pass; k_dflt (refine' args_ev (n := 6) ?F ?e ?_; (case F => k_asm); (case e => exact rfl); intro t9 k9; (try dsimp only [vals, List.cons_append, List.nil_append]))
  k_with "eval Call Name" => plain_pass; k_dflt (refine' callN_ev (n := 6) ?F ?X ?T ?f ?v ?w ?g ?e ?_ ?a ?b ?d; (case F => k_asm); (case e => exact rfl); (case b => exact rfl); (case X => k_asm); (case T => k_asm); (case a => exact rfl); (case f => k_is); (case v => boot_fast); (case w => exact rfl); (case g => decide); (case d => decide); intro t9 k9; (try dsimp only [vals]))
  k_with "eval Call Name" => plain_pass; k_dflt (refine' call_ev (n := 6) ?F ?X ?T ?f ?k ?e ?_ ?a ?b ?d; (case F => k_asm); (case e => exact rfl); (case b => exact rfl); (case X => k_asm); (case T => k_asm); (case a => exact rfl); (case f => k_is); (case k => k_is); (case d => decide); intro t9 k9; (try dsimp only [vals]))
  k_with "call ref" => ((with_reducible show wpAny _ _ (call (Value.ref 207) [Value.bytes _ _]) _ _ _); (refine' law_sixteen _ _ (by assumption) _ _ _ _ _ _ _ _ _ _ _ _ _ _ _ _ _ _ ?k1 ?k2 ?k3 ?k4 ?k5 ?kK ?kd ?ku ?_; (case k1 => k_asm); (case k2 => k_asm); (case k3 => k_asm); (case k4 => k_asm); (case k5 => k_asm); (case kK => first | exact rfl | assumption); (case kd => first | (dsimp only [Around.deeper]; omega) | ktr_room); (case ku => first | (dsimp only [Around.deeper]; omega) | ktr_units); intro t9 h9 tk9 F9 N9; (try dsimp only); (try k_fold)))
  k_with "call ref" => ((with_reducible show wpAny _ _ (call (Value.ref 212) [Value.bytes _ _, Value.bytes _ _]) _ _ _); (refine' law_sixty_four _ _ _ _ (by assumption) (by first | assumption | rfl) _ _ _ _ _ _ _ _ _ _ _ _ _ _ _ _ _ _ ?k1 ?k2 ?k3 ?k4 ?k5 ?kK ?kd ?ku ?_; (case k1 => k_asm); (case k2 => k_asm); (case k3 => k_asm); (case k4 => k_asm); (case k5 => k_asm); (case kK => first | exact rfl | assumption); (case kd => first | (dsimp only [Around.deeper]; omega) | ktr_room); (case ku => first | (dsimp only [Around.deeper]; omega) | ktr_units); intro t9 h9 tk9 F9 N9; (try dsimp only); (try k_fold)))
  k_with "binaryOp Mult int int" => ((with_reducible refine mul_pow ?k1 ?_); (case k1 => omega))
  k_with "binaryOp FloorDiv int int" => first | (refine div_c ?k1 ?k2 ?_; (case k1 => decide); (case k2 => decide)) | (refine div_pow ?k1 ?_; (case k1 => omega)) | fail "div"
  k_with "binaryOp Mod int int" => first | (refine mod_c ?k1 ?_; (case k1 => decide)) | refine mod_pow ?_ | fail "mod"
  k_with "binaryOp Pow int int" => (refine pow_2 ?k1 ?k2 ?_; (case k1 => first | exact room_ge (by decide) (by assumption) (by assumption) | omega); (case k2 => first | exact room_le (by decide) (by decide) (by assumption) (by assumption) (by assumption) | omega))
  k_with "exec Assign cons ListComp" => refine stop ?_
  k_with "eval ListComp" => (k_here; (with_reducible show wpAny _ _ (eval (Expr.ListComp _ [⟨Expr.Name _ _, Expr.Name _ _, [], 0⟩] _ _) _) _ _ _); k_dflt (refine comp_bytes (_F₀ := by k_asm) (by with_unfolding_all rfl) (by decide) (by rfl) (by decide) (by rfl) ?_))
  k_with "eval ListComp" => (k_here; (with_reducible show wpAny _ _ (eval (Expr.ListComp _ [⟨Expr.Name _ _, Expr.Name _ _, [_], 0⟩] _ _) _) _ _ _); k_dflt (refine comp_bytesT (_F₀ := by k_asm) (by with_unfolding_all rfl) (by decide) (by rfl) (by decide) (by rfl) ?_))
  k_with "SrcBy" => refine stop ?_
  k_with "binaryOp Add bytes bytes" => ((refine' add_R ?k1 ?_; (case k1 => ((try simp only [byteArr_size, List.size_toArray, List.length_cons, List.length_nil]); omega))); intro t9 k9 b9 hb9; (try simp only [byteArr_size, List.size_toArray, List.length_cons, List.length_nil] at hb9); (try dsimp only))
  k_with "subscriptTail Name Slice bytes ref" => ((with_reducible show wpAny _ _ (subscriptTail _ _ (Value.bytes _ _) (Value.ref _)) _ _ _); k_dflt ((refine' slice_R (s := ⟨_, _, _, _, _⟩) ?k1 ?k2 ?k3 ?k4 ?k5 ?_ ?k6 ?k7; (case k1 => k_asm); (case k2 => k_asm); (case k3 => constructor); (case k4 => constructor); (case k5 => first | omega | exact Nat.le_trans (spec64_size _ _ (by assumption)) (by decide) | exact Nat.le_trans (six_size _ (by assumption)) (by decide)); (case k6 => with_unfolding_all rfl); (case k7 => (intro _; with_unfolding_all rfl))); intro h9 t9 k9 b9 hb9 F9 N9; (try dsimp only)))
  k_with "subscriptTail Name Slice bytes ref" => ((with_reducible show wpAny _ _ (subscriptTail _ (Expr.Slice none (some (Expr.Constant (Const.int 12) _ _)) none _) (Value.bytes _ _) (Value.ref _)) _ _ _); k_dflt ((refine' slice_12 (s := ⟨_, _, _, _, _⟩) ?k1 ?k2 ?k3 ?k4 ?k5 ?_ ?k6 ?k7; (case k1 => k_asm); (case k2 => k_asm); (case k3 => constructor); (case k4 => constructor); (case k5 => first | omega | exact Nat.le_trans (spec64_size _ _ (by assumption)) (by decide) | exact Nat.le_trans (six_size _ (by assumption)) (by decide)); (case k6 => with_unfolding_all rfl); (case k7 => (intro _; with_unfolding_all rfl))); intro h9 t9 k9 b9 hb9 F9 N9; (try dsimp only)))
  k_with "call type:bytes" => refine stop ?_
  k_with "subscriptTail Name BinOp bytes int" => ((with_reducible show wpAny _ _ (subscriptTail _ _ (Value.bytes _ _) (Value.int _ _)) _ _ _); k_dflt ((refine' KBw.item_K (ks := KBw.bInts _) rfl ?k1 ?k2 ?k3 ?_ ?k4 ?k5; (case k1 => (rw [KBw.ints_length]; omega)); (case k2 => omega); (case k3 => (rw [KBw.ints_length]; omega)); (case k4 => with_unfolding_all rfl); (case k5 => (intro _; with_unfolding_all rfl))); intro t9 k9 x9 y9; (try dsimp only)))
  k_with "CompSrc" => refine stop ?_
  k_with "CompSrcT" => refine stop ?_
  k_with "CompEnd" => refine stop ?_
  k_with "subscriptTail Name BinOp ref int" => ((with_reducible show wpAny _ _ (subscriptTail _ _ (Value.ref _) (Value.int _ _)) _ _ _); k_dflt ((refine' ans_item ?k1 ?k2 ?k3 ?k4 ?k5 ?_ ?k6; (case k1 => k_asm); (case k2 => kcf_m); (case k3 => assumption); (case k4 => omega); (case k5 => omega); (case k6 => with_unfolding_all rfl)); intro v9 hv9; (try dsimp only)))
  k_with "compareOp NotEq ref ref" => (k_dflt (first | (refine' ne_longer ?k1 ?k2 ?k3 ?k5 ?_; (case k1 => k_asm); (case k2 => k_mem); (case k3 => k_mem); (case k5 => first | (dsimp +zetaDelta only [Around.deeper, ktrTop]; omega) | ktr_units)) | (refine' ne_empty ?k1 ?k2 ?k3 ?k5 ?_; (case k1 => k_asm); (case k2 => k_mem); (case k3 => k_mem); (case k5 => first | (dsimp +zetaDelta only [Around.deeper, ktrTop]; omega) | ktr_units)) | fail "ne"))
  k_with "RowB" => refine stop ?_
  k_steps
  all_goals first
    | ((rename Fr _ _ _ _ => kF9); (rename News _ _ _ _ => kN9); (refine' Stop.go (RowB.next ?rz kF9 kN9 ?rm ?rs ?rd); (case rm => kcf_m); (case rs => (intro p hp; kcf_m)); (case rd => assumption); (case rz => first | omega | exact Nat.le_trans (spec64_size _ _ (by assumption)) (by decide) | exact Nat.le_trans (six_size _ (by assumption)) (by decide))))
    | skip
  · refine Stop.go (LCg.Assign_ListComp_U (F₀ := by k_asm) (by rfl) (by with_unfolding_all rfl) (by with_unfolding_all rfl) (by decide) (by rfl) (by decide) (by rfl) (by rfl) (by rfl) ?_)
    k_steps
    refine Stop.go (LCg.CompSrc.range (by rfl) (by k_asm) (by k_asm) (by assumption) (by decide) (show _ = ((8 : Nat) : Int) from by rfl) (by rw [sizeLine_eq]; decide) ?_)
    intro g'
    refine rest_any DueV ?_ ?_
    · intro v I oI C oC D m₂ ys h tk E' hP hC hx F8 N8 off ne
      obtain ⟨i, hi, t9, rfl⟩ := hP
      have off0 := off
      simp only [LCg.Off3, and_true] at off
      k_steps
      all_goals exact Stop.go (LCg.CompEnd.intro (by k_asm) (by k_asm) _ (fun p hp => hp) off0 (by first | trivial | exact Or.inr ⟨_, by kcf_m, rfl, _, rfl⟩) ⟨rfl, by assumption⟩)
    · intro ys hl hvs D h tk F8 N8 o1
      simp only [LCg.Off1, and_true] at o1
      try dsimp only
      k_steps
      refine Stop.go (LCt.Assign_ListComp_T (F₀ := by k_asm) (by rfl) (by with_unfolding_all rfl) (by with_unfolding_all rfl) (by decide) (by rfl) (by decide) (by rfl) (by rfl) (by rfl) ?_)
      k_steps
      refine Stop.go (LCt.CompSrcT.ledger (by rfl) (by k_asm) (by k_asm) (by k_mem) (by rw [sizeLine_eq, List.size_toArray]; omega) ?_)
      intro g2
      refine restT_any RowV ?_ ?_
      · intro v I oI C oC D2 m₂ zs h tk E' hP hC hx F9 N9 off ne
        obtain ⟨i, hi, hvi⟩ := hP
        have hm : v ∈ ys := by
          rw [List.getElem?_toArray] at hvi
          exact List.mem_of_getElem? hvi
        have off0 := off
        simp only [LCg.Off3, and_true] at off
        obtain ⟨r, t, rfl, hlen⟩ := hvs v hm
        rcases r with _ | _ | l
        · dsimp only [resO, resV] at hx
          k_steps
          all_goals first
            | exact Stop.go (LCg.CompEnd.intro (by k_asm) (by k_asm) _ (fun p hp => hp) off0 (by first | trivial | exact Or.inr ⟨_, by kcf_m, rfl, _, rfl⟩) rfl)
            | fail "x"
        · dsimp only [resO, resV] at hx
          k_steps
          all_goals first
            | exact Stop.go (LCg.CompEnd.intro (by k_asm) (by k_asm) _ (fun p hp => hp) off0 (by first | trivial | exact Or.inr ⟨_, by kcf_m, rfl, _, rfl⟩) rfl)
            | fail "x"
        · dsimp only [resO, resV] at hx
          k_steps
          all_goals first
            | exact Stop.go (LCg.CompEnd.intro (by k_asm) (by k_asm) _ (fun p hp => hp) off0 (by first | trivial | exact Or.inr ⟨_, by kcf_m, rfl, _, rfl⟩) ⟨rfl, _, _, rfl, by rw [byteArr_size]; exact hlen l rfl⟩)
            | fail "x"
      · intro zs hl2 hzs D2 h tk F9 N9 o2
        simp only [LCg.Off1, and_true] at o2
        try dsimp only
        cases zs with
        | nil =>
          k_steps
          ((rename Fr _ _ _ _ => kF9); (rename News _ _ _ _ => kN9); (refine' Stop.go (RowB.next ?rz kF9 kN9 ?rm ?rs ?rd); (case rm => kcf_m); (case rs => (intro p hp; kcf_m)); (case rd => assumption); (case rz => first | omega | exact Nat.le_trans (spec64_size _ _ (by assumption)) (by decide) | exact Nat.le_trans (six_size _ (by assumption)) (by decide))))
        | cons z zs =>
          obtain ⟨bz, tz, rfl, hbz⟩ := hzs z (.head _)
          k_steps
          ((rename Fr _ _ _ _ => kF9); (rename News _ _ _ _ => kN9); (refine' Stop.go (RowB.next ?rz kF9 kN9 ?rm ?rs ?rd); (case rm => kcf_m); (case rs => (intro p hp; kcf_m)); (case rd => assumption); (case rz => first | omega | exact Nat.le_trans (spec64_size _ _ (by assumption)) (by decide) | exact Nat.le_trans (six_size _ (by assumption)) (by decide))))
  · refine Stop.go (bytes_ofL (us := [_]) (by k_asm) (by k_asm) (.head _) rfl (.cons _ _ .nil) (fun v hv => by rw [List.mem_singleton.mp hv]; exact octet_nat _) (by simp only [List.length_cons, List.length_nil]; decide) ?_)
    intro h8 t8 k8 F8 N8
    k_steps
    ((rename Fr _ _ _ _ => kF9); (rename News _ _ _ _ => kN9); (refine' Stop.go (RowB.next ?rz kF9 kN9 ?rm ?rs ?rd); (case rm => kcf_m); (case rs => (intro p hp; kcf_m)); (case rd => assumption); (case rz => first | omega | exact Nat.le_trans (spec64_size _ _ (by assumption)) (by decide) | exact Nat.le_trans (six_size _ (by assumption)) (by decide))))
  · refine Stop.go ⟨_, _, _, rfl, rfl, by k_asm, by k_asm, by rw [sizeLine_eq]; omega, fun s₂ ⟨g, e⟩ => ?_⟩
    subst e
    refine rest_any IsOctet ?_ ?_
    · intro v I oI C oC D m₂ ys h tk E' hP hC hx F8 N8 off ne
      obtain ⟨i, hi, c9, u9, hc9, rfl⟩ := hP
      have hk9 := c9.toNat_lt
      have off0 := off
      simp only [LCg.Off3, and_true] at off
      k_steps
      all_goals exact Stop.go (LCg.CompEnd.intro (by k_asm) (by k_asm) _ (fun p hp => hp) off0 (by first | trivial | exact Or.inr ⟨_, by kcf_m, rfl, _, rfl⟩) ⟨rfl, _, _, rfl, by omega, by omega⟩)
    · intro ys hl hvs D h tk F8 N8 o1
      simp only [LCg.Off1, and_true] at o1
      try dsimp only
      k_steps
      obtain ⟨ns, hn, hr⟩ := octets hvs
      refine Stop.go (bytes_ofL (by k_asm) (by k_asm) (.head _) rfl hn hr (by rw [← hn.length]; omega) ?_)
      intro h8 t8 k8 F8 N8
      have hz8 : (byteArr ns).size ≤ 12 := by rw [byteArr_size, ← hn.length]; omega
      k_steps
      ((rename Fr _ _ _ _ => kF9); (rename News _ _ _ _ => kN9); (refine' Stop.go (RowB.next ?rz kF9 kN9 ?rm ?rs ?rd); (case rm => kcf_m); (case rs => (intro p hp; kcf_m)); (case rd => assumption); (case rz => first | omega | exact Nat.le_trans (spec64_size _ _ (by assumption)) (by decide) | exact Nat.le_trans (six_size _ (by assumption)) (by decide))))
  · refine Stop.go ⟨_, _, _, rfl, rfl, by k_asm, by k_asm, by rw [sizeLine_eq]; omega, fun s₂ ⟨g, e⟩ => ?_⟩
    subst e
    refine restT_any IsOctet ?_ ?_
    · intro v I oI C oC D m₂ ys h tk E' hP hC hx F8 N8 off ne
      obtain ⟨i, hi, c9, u9, hc9, rfl⟩ := hP
      have hk9 := c9.toNat_lt
      have off0 := off
      simp only [LCg.Off3, and_true] at off
      k_steps
      all_goals first
        | exact Stop.go (LCg.CompEnd.intro (by k_asm) (by k_asm) _ (fun p hp => hp) off0 (by first | trivial | exact Or.inr ⟨_, by kcf_m, rfl, _, rfl⟩) ⟨rfl, _, _, rfl, by omega, by omega⟩)
        | exact Stop.go (LCg.CompEnd.intro (by k_asm) (by k_asm) _ (fun p hp => hp) off0 (by first | trivial | exact Or.inr ⟨_, by kcf_m, rfl, _, rfl⟩) rfl)
        | fail "x"
    · intro ys hl hvs D h tk F8 N8 o1
      simp only [LCg.Off1, and_true] at o1
      try dsimp only
      k_steps
      obtain ⟨ns, hn, hr⟩ := octets hvs
      refine Stop.go (bytes_ofL (by k_asm) (by k_asm) (.head _) rfl hn hr (by rw [← hn.length]; omega) ?_)
      intro h8 t8 k8 F8 N8
      have hz8 : (byteArr ns).size ≤ 12 := by rw [byteArr_size, ← hn.length]; omega
      k_steps
      ((rename Fr _ _ _ _ => kF9); (rename News _ _ _ _ => kN9); (refine' Stop.go (RowB.next ?rz kF9 kN9 ?rm ?rs ?rd); (case rm => kcf_m); (case rs => (intro p hp; kcf_m)); (case rd => assumption); (case rz => first | omega | exact Nat.le_trans (spec64_size _ _ (by assumption)) (by decide) | exact Nat.le_trans (six_size _ (by assumption)) (by decide))))
  · refine Stop.go (LCg.CompSrc.range (by rfl) (by k_asm) (by k_asm) (by assumption) (by first | exact small_one (by omega) (by omega) (by omega) (by omega) | decide) (show _ = ((b.size : Nat) : Int) from by first | (rw [rangeSize_nat]; omega) | rfl) (by rw [sizeLine_eq]; omega) ?_)
    intro g'
    refine rest_any IsOctet ?_ ?_
    · intro v I oI C oC D m₂ ys h tk E' hP hC hx F8 N8 off ne
      obtain ⟨i, hi, t9, rfl⟩ := hP
      have off0 := off
      simp only [LCg.Off3, and_true] at off
      k_steps
      all_goals exact Stop.go (LCg.CompEnd.intro (by k_asm) (by k_asm) _ (fun p hp => hp) off0 (by first | trivial | exact Or.inr ⟨_, by kcf_m, rfl, _, rfl⟩) ⟨rfl, _, _, rfl, by omega, by omega⟩)
    · intro ys hl hvs D h tk F8 N8 o1
      simp only [LCg.Off1, and_true] at o1
      try dsimp only
      k_steps
      obtain ⟨ns, hn, hr⟩ := octets hvs
      refine Stop.go (bytes_ofL (by k_asm) (by k_asm) (.head _) rfl hn hr (by rw [← hn.length]; omega) ?_)
      intro h8 t8 k8 F8 N8
      have hz8 : (byteArr ns).size ≤ 12 := by rw [byteArr_size, ← hn.length]; omega
      k_steps
      ((rename Fr _ _ _ _ => kF9); (rename News _ _ _ _ => kN9); (refine' Stop.go (RowB.next ?rz kF9 kN9 ?rm ?rs ?rd); (case rm => kcf_m); (case rs => (intro p hp; kcf_m)); (case rd => assumption); (case rz => first | omega | exact Nat.le_trans (spec64_size _ _ (by assumption)) (by decide) | exact Nat.le_trans (six_size _ (by assumption)) (by decide))))
end
end

section
/-- a loop over a list of any values; the ledger may grow, one name may change its value -/
def EndZ {Z : Type} (R : Z → Prop) (h₀ : Heap) (L I : Addr) (ks : List Str) (kv : Z → List Value) (oI : Obj) (fixed : Addr × Obj) (J : List (Addr × Obj) → Prop) (s : Shared) (Q : Flow → Shared → Prop) : Flow → Shared → Prop :=
  EndF (EndX (fun g => g = h₀) R L I ks kv oI [fixed] J s) Q
section
variable {prog : Program} {w : World} {A : Around} {E : Value → Shared → Prop} {s : Shared} {env : Env}
theorem listZ {Z : Type} {R : Z → Prop} {z₀ : Z} {l : Addr} {ws : List Value} {nl : Nat} {h₀ : Heap} {x : Str} {px : Pos} {body : List Stmt} {Q : Flow → Shared → Prop} {m₀ : Str → Option Value} {nx₀ : List (Addr × Obj)} {kv : Z → List Value} (ks : List Str) (J : Nat → List (Addr × Obj) → Prop)
    (hx : env.kindOf x = some .local) (hp : (env.scope.kind == .class || (env.scope.kind == .module && env.locals != env.globals)) = false)
    (hh : A.handled = none) (F : Fr h₀ env.locals s.heap m₀) (N : News h₀ env.locals s.heap nx₀) (hz : R z₀) (hk : ks.map m₀ = (kv z₀).map some) (hl : (l, listOf (List.toArray ws) nl) ∈ nx₀) (hJ : J 0 nx₀)
    (turn : ∀ (k : Nat) (v : Value) (u : Str → Option Value) (I : Addr) (oI : Obj) (z : Z) (h' : Heap) (tk' : Nat) (nx : List (Addr × Obj)), ws[k]? = some v → R z → (∀ p ∈ nx, p.1 ≠ I) → J k nx → (l, listOf (List.toArray ws) nl) ∈ nx →
      Fr h₀ env.locals h' (fun y => if y = x then some v else ov ks (kv z) u y) → News h₀ env.locals h' ((I, oI) :: nx) →
      wpAny (model prog w) A (execs body env) (EndZ R h₀ env.locals I ks kv oI (l, listOf (List.toArray ws) nl) (J (k + 1)) s Q) E { s with heap := h', toks := tk' })
    (done : ∀ (u : Str → Option Value) (z : Z) (h' : Heap) (tk' : Nat) (nx : List (Addr × Obj)), R z → J ws.length nx → (l, listOf (List.toArray ws) nl) ∈ nx → Fr h₀ env.locals h' (ov ks (kv z) u) → News h₀ env.locals h' nx → Q .next { s with heap := h', toks := tk' })
    (hE : PassesOwn (model prog w) A env E) :
    wpAny (model prog w) A (pyIter (.ref l)) (fun it s₂ => codeAny (model prog w) A (.forLoop (.Name x px) it body [] env) (fun r s' => match r with | .ok f => Q f s' | .error e => cameBackBy (model prog w) A env E e s') s₂) E s :=
  iterX (G := fun g => g = h₀) hx hp hh rfl F N hz hk hl hJ (fun k v u I oI z g' h' tk' nx hv hG' hz' ho hJ' hm F' N' => by cases hG'; exact turn k v u I oI z h' tk' nx hv hz' ho hJ' hm F' N') (fun u z g' h' tk' nx hG' hz' hJ' hm F' N' => by cases hG'; exact done u z h' tk' nx hz' hJ' hm F' N') hE
theorem EndZ.next {Z : Type} {R : Z → Prop} {h₀ : Heap} {L I : Addr} {ks : List Str} {kv : Z → List Value} {oI : Obj} {fixed : Addr × Obj} {J : List (Addr × Obj) → Prop} {Q : Flow → Shared → Prop} (z : Z) {h' : Heap} {tk' : Nat} {m' : Str → Option Value} {nx : List (Addr × Obj)}
    (hz : R z) (ho : ∀ p ∈ nx, p.1 ≠ I) (hm : fixed ∈ nx) (hJ : J nx) (F' : Fr h₀ L h' m') (N' : News h₀ L h' ((I, oI) :: nx)) (hk : ks.map m' = (kv z).map some) : EndZ R h₀ L I ks kv oI fixed J s Q .next { s with heap := h', toks := tk' } :=
  .mk z h₀ h' tk' m' nx rfl hz ho (fun p hp => List.mem_singleton.mp hp ▸ hm) hJ F' N' hk
/-- one of a list of pairs of octets -/
def PairV (v : Value) : Prop := ∃ c t, v = .bytes c t ∧ c.size = 2
theorem pick_pair {h₀ : Heap} {L l : Addr} {news : List (Addr × Obj)} {value slice : PySem.Expr} {Q : Value → Shared → Prop} {vs : List Value} {n : Nat} {i : Int} {u : Tok} (N : News h₀ L s.heap news) (hm : (l, listOf (List.toArray vs) n) ∈ news) (hv : ∀ v ∈ vs, PairV v) (h0 : 0 ≤ i) (h1 : i < vs.length) (hn : vs.length ≤ 100) (h : ∀ c t, c.size = 2 → Q (.bytes c t) s)
    (hs : subscripted slice false (.ref l) (.int i u) = operate [.ref l, .int i u] (getItem (.ref l) (.int i u))) : wpAny (model prog w) A (subscriptTail value slice (.ref l) (.int i u)) Q E s := by
  have hl : i.toNat < vs.length := by omega
  have hl' := News.isList N hm
  obtain ⟨c, t, e, hc⟩ := hv _ (List.getElem_mem hl)
  exact tail_any hl'.typeIs slot_list_getitem.lookup (wpAny_getItem_list hl' h0 (by omega) (by rw [List.getElem?_toArray]; exact List.getElem?_eq_getElem hl) (by rw [e]; exact h c t hc)) hs
theorem fmod_octet (x : Int) : 0 ≤ x.fmod 256 ∧ x.fmod 256 < 256 := ⟨Int.fmod_nonneg_of_pos _ (by decide), Int.fmod_lt_of_pos _ (by decide)⟩
end
end

set_option linter.all false
section
theorem numOf_append (old : Nat) (A ns : List Int) : numOf old (A ++ ns) = numOf old A * 2 ^ (old * ns.length) + numOf old ns := by
  have key : ∀ (ns : List Int) (a : Int), ns.foldl (fun n x => n * 2 ^ old + x) a = a * 2 ^ (old * ns.length) + ns.foldl (fun n x => n * 2 ^ old + x) 0 := by
    intro ns
    induction ns with
    | nil => intro a; simp
    | cons x ns ih =>
      intro a
      rw [List.foldl_cons, List.foldl_cons, ih (a * 2 ^ old + x), ih (0 * 2 ^ old + x), List.length_cons]
      have e : (2 : Int) ^ (old * (ns.length + 1)) = 2 ^ old * 2 ^ (old * ns.length) := by rw [← Int.pow_add]; congr 1; rw [Nat.mul_succ, Nat.add_comm]
      rw [e, Int.zero_mul, Int.zero_add, Int.add_mul, Int.mul_assoc, Int.add_assoc]
  unfold numOf
  rw [List.foldl_append, key]
theorem two_pow_add (a b : Nat) : (2 : Int) ^ (a + b) = 2 ^ a * 2 ^ b := Int.pow_add ..
theorem div_high {N M : Int} {L s : Nat} (h0 : 0 ≤ M) (h1 : M < 2 ^ L) : (N * 2 ^ L + M) / 2 ^ (L + s) = N / 2 ^ s := by
  rw [two_pow_add, ← Int.ediv_ediv_of_nonneg (Int.le_of_lt (pow_pos2 L))]
  rw [Int.add_comm, Int.add_mul_ediv_right _ _ (Int.ne_of_gt (pow_pos2 L)), Int.ediv_eq_zero_of_lt h0 h1, Int.zero_add]
theorem div_low {N M : Int} {L s new : Nat} (h : s + new ≤ L) : (N * 2 ^ L + M) / 2 ^ s % 2 ^ new = M / 2 ^ s % 2 ^ new := by
  obtain ⟨d, rfl⟩ : ∃ d, L = s + new + d := ⟨L - (s + new), by omega⟩
  have e : N * 2 ^ (s + new + d) = (N * 2 ^ d * 2 ^ new) * 2 ^ s := by
    rw [two_pow_add, two_pow_add]
    simp only [Int.mul_assoc, Int.mul_comm, Int.mul_left_comm]
  rw [e, Int.add_comm, Int.add_mul_ediv_right _ _ (Int.ne_of_gt (pow_pos2 s)), Int.add_mul_emod_self_right]
theorem regGroups_nat (old new : Nat) (ns : List Int) : regGroups old new ns = (List.range (ns.length * old / new)).map fun j => numOf old ns / 2 ^ (ns.length * old - new * (j + 1)) % 2 ^ new := by
  unfold regGroups rangeKs
  have c : ((ns.length : Int) * old / new - 0).toNat = ns.length * old / new := by
    rw [Int.sub_zero]
    have : ((ns.length : Int) * (old : Int)) = ((ns.length * old : Nat) : Int) := by push_cast; rfl
    rw [this, ← Int.natCast_ediv, Int.toNat_natCast]
  rw [c, List.map_map]
  apply List.map_congr_left
  intro j _
  have e : ((ns.length : Int) * (old : Int) - (new : Int) * (0 + (j : Int) + 1)) = ((ns.length * old : Nat) : Int) - ((new * (j + 1) : Nat) : Int) := by
    push_cast; rw [Int.zero_add]
  show numOf old ns / 2 ^ ((ns.length : Int) * (old : Int) - (new : Int) * (0 + (j : Int) + 1)).toNat % 2 ^ new = _
  rw [e, Int.toNat_sub]
theorem regGroups_append {old new : Nat} (A ns : List Int) (hd : A.length * old % new = 0) (hn : 0 < new) (hr : ∀ v ∈ ns, 0 ≤ v ∧ v < 2 ^ old) : regGroups old new (A ++ ns) = regGroups old new A ++ regGroups old new ns := by
  obtain ⟨q, hq⟩ : ∃ q, A.length * old = new * q := ⟨A.length * old / new, by rw [Nat.mul_div_cancel' (Nat.dvd_of_mod_eq_zero hd)]⟩
  obtain ⟨n0, n1⟩ := numOf_in old ns hr
  rw [regGroups_nat, regGroups_nat, regGroups_nat, numOf_append, List.length_append, Nat.add_mul, hq, Nat.mul_add_div hn, Nat.mul_div_cancel_left _ hn, List.range_add, List.map_append, List.map_map]
  have eL : old * ns.length = ns.length * old := Nat.mul_comm ..
  congr 1
  · apply List.map_congr_left
    intro j hj
    have hj := List.mem_range.mp hj
    have hjq : new * (j + 1) ≤ new * q := Nat.mul_le_mul_left _ hj
    have e : new * q + ns.length * old - new * (j + 1) = old * ns.length + (new * q - new * (j + 1)) := by omega
    rw [e, div_high n0 n1]
  · apply List.map_congr_left
    intro j hj
    have hj := List.mem_range.mp hj
    have hjq : new * (j + 1) ≤ ns.length * old := Nat.le_trans (Nat.mul_le_mul_left new hj) (Nat.mul_div_le (ns.length * old) new)
    have e0 : new * (q + j + 1) = new * q + new * (j + 1) := by rw [Nat.add_assoc, Nat.mul_add]
    have e : new * q + ns.length * old - new * (q + j + 1) = ns.length * old - new * (j + 1) := by omega
    have e1 : new * (j + 1) = new * j + new := Nat.mul_succ ..
    simp only [Function.comp_apply]
    rw [e, eL]
    exact div_low (by omega)
theorem regMore_append {old new : Nat} (A ns : List Int) (hd : A.length * old % new = 0) : regMore old new (A ++ ns) = regMore old new ns := by
  unfold regMore
  have e : (((A ++ ns).length : Int) * old % new) = ((ns.length : Int) * old % new) := by
    have e1 : (((A ++ ns).length : Int) * old) = ((A.length * old + ns.length * old : Nat) : Int) := by rw [List.length_append]; push_cast; rw [Int.add_mul]
    have e2 : ((ns.length : Int) * old) = ((ns.length * old : Nat) : Int) := by push_cast; rfl
    rw [e1, e2, ← Int.natCast_emod, ← Int.natCast_emod, Nat.add_mod, hd, Nat.zero_add, Nat.mod_mod]
  rw [e]
theorem regRest_append {old new : Nat} (A ns : List Int) (hd : A.length * old % new = 0) : regRest old new (A ++ ns) = regRest old new ns := by
  unfold regRest
  have e : (((A ++ ns).length : Int) * old % new) = ((ns.length : Int) * old % new) := by
    have e1 : (((A ++ ns).length : Int) * old) = ((A.length * old + ns.length * old : Nat) : Int) := by rw [List.length_append]; push_cast; rw [Int.add_mul]
    have e2 : ((ns.length : Int) * old) = ((ns.length * old : Nat) : Int) := by push_cast; rfl
    rw [e1, e2, ← Int.natCast_emod, ← Int.natCast_emod, Nat.add_mod, hd, Nat.zero_add, Nat.mod_mod]
  have e2 : ((ns.length : Int) * old % new) = ((ns.length * old % new : Nat) : Int) := by push_cast; rfl
  rw [e, numOf_append, e2]
  congr 1
  have h := Nat.mod_le (ns.length * old) new
  obtain ⟨d, hd⟩ : ∃ d, old * ns.length = d + ns.length * old % new := ⟨old * ns.length - ns.length * old % new, by rw [Nat.mul_comm old]; omega⟩
  rw [Int.toNat_natCast, hd, two_pow_add, ← Int.mul_assoc, Int.add_comm, Int.add_mul_emod_self_right]
/-! pieces -/
/-- high places: what stands below falls away -/
theorem hi8 {N x : Int} (h : 0 ≤ x ∧ x < 256) (s : Nat) : (N * 2 ^ 8 + x) / 2 ^ (8 + s) = N / 2 ^ s := div_high h.1 h.2
theorem hi6 {N x : Int} (h : 0 ≤ x ∧ x < 64) (s : Nat) : (N * 2 ^ 6 + x) / 2 ^ (6 + s) = N / 2 ^ s := div_high h.1 h.2
theorem lo2 {N x : Int} (h : 0 ≤ x ∧ x < 256) : (N * 2 ^ 8 + x) / 2 ^ 4 % 2 ^ 6 = N % 4 * 16 + x / 16 := by omega
theorem lo3 {N x : Int} (h : 0 ≤ x ∧ x < 256) : (N * 2 ^ 8 + x) / 2 ^ 6 % 2 ^ 6 = N % 16 * 4 + x / 64 := by omega
theorem lo4 {N x : Int} : (N * 2 ^ 8 + x) % 2 ^ 6 = x % 64 := by omega
theorem lo6b {N x : Int} (h : 0 ≤ x ∧ x < 64) : (N * 2 ^ 6 + x) / 2 ^ 2 % 2 ^ 8 = N % 16 * 16 + x / 4 := by omega
theorem lo6a {N x : Int} (h : 0 ≤ x ∧ x < 64) (hN : 0 ≤ N ∧ N < 64) : (N * 2 ^ 6 + x) / 2 ^ 4 % 2 ^ 8 = N * 4 + x / 16 := by omega
theorem lo6c {N x : Int} (h : 0 ≤ x ∧ x < 64) : (N * 2 ^ 6 + x) % 2 ^ 8 = N % 4 * 64 + x := by omega
theorem m16 (a b : Int) : (a * 2 ^ 8 + b) % 16 = b % 16 := by omega
theorem m16s (a b : Int) : (a * 2 ^ 6 + b) % 16 = b % 16 := by omega
theorem m4s (a b : Int) : (a * 2 ^ 6 + b) % 4 = b % 4 := by omega
theorem top6 {a : Int} (h : 0 ≤ a ∧ a < 256) : a / 2 ^ 2 % 2 ^ 6 = a / 4 := by omega
theorem groups84 (x : Int) (h : 0 ≤ x ∧ x < 256) : regGroups 8 4 [x] = [x / 16, x % 16] := by
  rw [regGroups_nat]
  simp only [List.length_cons, List.length_nil, Nat.zero_add, Nat.reduceAdd, Nat.reduceMul, Nat.reduceDiv, List.range_succ, List.range_zero, List.nil_append, List.cons_append, List.map_cons, List.map_nil, Nat.reduceSub, numOf, List.foldl_cons, List.foldl_nil, Int.zero_mul, Int.zero_add, List.cons.injEq, and_true]
  exact ⟨by omega, by omega⟩
theorem groups48 (a b : Int) (ha : 0 ≤ a ∧ a < 16) (hb : 0 ≤ b ∧ b < 16) : regGroups 4 8 [a, b] = [a * 16 + b] := by
  rw [regGroups_nat]
  simp only [List.length_cons, List.length_nil, Nat.zero_add, Nat.reduceAdd, Nat.reduceMul, Nat.reduceDiv, List.range_succ, List.range_zero, List.nil_append, List.cons_append, List.map_cons, List.map_nil, Nat.reduceSub, numOf, List.foldl_cons, List.foldl_nil, Int.zero_mul, Int.zero_add, List.cons.injEq, and_true]
  omega
theorem groups86_3 (a b c : Int) (ha : 0 ≤ a ∧ a < 256) (hb : 0 ≤ b ∧ b < 256) (hc : 0 ≤ c ∧ c < 256) : regGroups 8 6 [a, b, c] = [a / 4, a % 4 * 16 + b / 16, b % 16 * 4 + c / 64, c % 64] := by
  rw [regGroups_nat]
  simp only [List.length_cons, List.length_nil, Nat.zero_add, Nat.reduceAdd, Nat.reduceMul, Nat.reduceDiv, List.range_succ, List.range_zero, List.nil_append, List.cons_append, List.map_cons, List.map_nil, Nat.reduceSub, numOf, List.foldl_cons, List.foldl_nil, Int.zero_mul, Int.zero_add, List.cons.injEq, and_true]
  refine ⟨?_, ?_, ?_, ?_⟩
  · rw [hi8 hc 10, hi8 hb 2, top6 ha]
  · rw [hi8 hc 4, lo2 hb]
  · rw [lo3 hc, m16]
  · rw [Int.pow_zero, Int.ediv_one, lo4]
theorem groups86_2 (a b : Int) (ha : 0 ≤ a ∧ a < 256) (hb : 0 ≤ b ∧ b < 256) : regGroups 8 6 [a, b] = [a / 4, a % 4 * 16 + b / 16] := by
  rw [regGroups_nat]
  simp only [List.length_cons, List.length_nil, Nat.zero_add, Nat.reduceAdd, Nat.reduceMul, Nat.reduceDiv, List.range_succ, List.range_zero, List.nil_append, List.cons_append, List.map_cons, List.map_nil, Nat.reduceSub, numOf, List.foldl_cons, List.foldl_nil, Int.zero_mul, Int.zero_add, List.cons.injEq, and_true]
  refine ⟨?_, ?_⟩
  · rw [hi8 hb 2, top6 ha]
  · exact lo2 hb
theorem groups86_1 (a : Int) (ha : 0 ≤ a ∧ a < 256) : regGroups 8 6 [a] = [a / 4] := by
  rw [regGroups_nat]
  simp only [List.length_cons, List.length_nil, Nat.zero_add, Nat.reduceAdd, Nat.reduceMul, Nat.reduceDiv, List.range_succ, List.range_zero, List.nil_append, List.cons_append, List.map_cons, List.map_nil, Nat.reduceSub, numOf, List.foldl_cons, List.foldl_nil, Int.zero_mul, Int.zero_add, List.cons.injEq, and_true]
  exact top6 ha
theorem rest86_2 (a b : Int) (_hb : 0 ≤ b ∧ b < 256) : regRest 8 6 [a, b] = b % 16 * 4 := by
  simp only [regRest, List.length_cons, List.length_nil, Nat.zero_add, Nat.reduceAdd, numOf, List.foldl_cons, List.foldl_nil, Int.zero_mul, Int.zero_add]
  show (a * 2 ^ 8 + b) % 2 ^ 4 * 2 ^ 2 = _
  omega
theorem rest86_1 (a : Int) : regRest 8 6 [a] = a % 4 * 16 := by
  simp only [regRest, List.length_cons, List.length_nil, Nat.zero_add, numOf, List.foldl_cons, List.foldl_nil, Int.zero_mul, Int.zero_add]
  show a % 2 ^ 2 * 2 ^ 4 = _
  omega
theorem groups68_4 (a b c d : Int) (ha : 0 ≤ a ∧ a < 64) (hb : 0 ≤ b ∧ b < 64) (hc : 0 ≤ c ∧ c < 64) (hd : 0 ≤ d ∧ d < 64) : regGroups 6 8 [a, b, c, d] = [a * 4 + b / 16, b % 16 * 16 + c / 4, c % 4 * 64 + d] := by
  rw [regGroups_nat]
  simp only [List.length_cons, List.length_nil, Nat.zero_add, Nat.reduceAdd, Nat.reduceMul, Nat.reduceDiv, List.range_succ, List.range_zero, List.nil_append, List.cons_append, List.map_cons, List.map_nil, Nat.reduceSub, numOf, List.foldl_cons, List.foldl_nil, Int.zero_mul, Int.zero_add, List.cons.injEq, and_true]
  refine ⟨?_, ?_, ?_⟩
  · rw [hi6 hd 10, hi6 hc 4, lo6a hb ha]
  · rw [hi6 hd 2, lo6b hc, m16s]
  · rw [Int.pow_zero, Int.ediv_one, lo6c hd, m4s]
theorem groups68_3 (a b c : Int) (ha : 0 ≤ a ∧ a < 64) (hb : 0 ≤ b ∧ b < 64) (hc : 0 ≤ c ∧ c < 64) : regGroups 6 8 [a, b, c] = [a * 4 + b / 16, b % 16 * 16 + c / 4] := by
  rw [regGroups_nat]
  simp only [List.length_cons, List.length_nil, Nat.zero_add, Nat.reduceAdd, Nat.reduceMul, Nat.reduceDiv, List.range_succ, List.range_zero, List.nil_append, List.cons_append, List.map_cons, List.map_nil, Nat.reduceSub, numOf, List.foldl_cons, List.foldl_nil, Int.zero_mul, Int.zero_add, List.cons.injEq, and_true]
  refine ⟨?_, ?_⟩
  · rw [hi6 hc 4, lo6a hb ha]
  · rw [lo6b hc, m16s]
theorem groups68_2 (a b : Int) (ha : 0 ≤ a ∧ a < 64) (hb : 0 ≤ b ∧ b < 64) : regGroups 6 8 [a, b] = [a * 4 + b / 16] := by
  rw [regGroups_nat]
  simp only [List.length_cons, List.length_nil, Nat.zero_add, Nat.reduceAdd, Nat.reduceMul, Nat.reduceDiv, List.range_succ, List.range_zero, List.nil_append, List.cons_append, List.map_cons, List.map_nil, Nat.reduceSub, numOf, List.foldl_cons, List.foldl_nil, Int.zero_mul, Int.zero_add, List.cons.injEq, and_true]
  exact lo6a hb ha
end

set_option linter.all false
section
def Oct (ns : List Int) : Prop := ∀ v ∈ ns, 0 ≤ v ∧ v < 256
theorem Oct.head {a : Int} {l : List Int} (h : Oct (a :: l)) : 0 ≤ a ∧ a < 256 := h a (.head _)
theorem Oct.tail {a : Int} {l : List Int} (h : Oct (a :: l)) : Oct l := fun v hv => h v (.tail _ hv)
theorem bInts_oct (b : Array UInt8) : Oct (KBw.bInts b) := fun _ hv => KBw.ints_in hv
theorem places_3 (a b c : Int) (l : List Int) (h : Oct (a :: b :: c :: l)) : places (a :: b :: c :: l) = [a / 4, a % 4 * 16 + b / 16, b % 16 * 4 + c / 64, c % 64] ++ places l := by
  have hl : Oct l := h.tail.tail.tail
  have e := regGroups_append (old := 8) (new := 6) [a, b, c] l (by simp) (by decide) hl
  have e2 := regMore_append (old := 8) (new := 6) [a, b, c] l (by simp)
  have e3 := regRest_append (old := 8) (new := 6) [a, b, c] l (by simp)
  rw [groups86_3 a b c h.head h.tail.head h.tail.tail.head] at e
  simp only [List.cons_append, List.nil_append] at e e2 e3
  unfold places
  rw [e, e2, e3]
  split <;> simp
theorem pads_4 (n : Nat) : pads (n + 1 + 1 + 1 + 1) = pads n := congrArg (fun k => (4 - k) % 4) (Nat.add_mod_right n 4)
theorem pad4_4 (a b c d : Int) (l : List Int) : pad4 (a :: b :: c :: d :: l) = a :: b :: c :: d :: pad4 l := by
  unfold pad4
  rw [List.length_cons, List.length_cons, List.length_cons, List.length_cons, pads_4]
  rfl
theorem n1 {x a : Int} (h : 0 ≤ a ∧ a < 256) : (x * 256 + a) % 65536 / 4 % 64 = a / 4 := by omega
theorem n2 {x b : Int} (h : 0 ≤ b ∧ b < 256) : (x * 256 + b) % 65536 / 16 % 64 = x % 4 * 16 + b / 16 := by omega
theorem n3 {x c : Int} (h : 0 ≤ c ∧ c < 256) : (x * 256 + c) % 65536 / 64 % 64 = x % 16 * 4 + c / 64 := by omega
theorem n9 (a : Int) : regMore 8 6 [a] = true := by simp [regMore]
theorem n10 (a b : Int) : regMore 8 6 [a, b] = true := by simp [regMore]
theorem n4 {x c : Int} : (x * 256 + c) % 64 = c % 64 := by omega
theorem n5 {x c : Int} : (x * 256 + c) % 4 = c % 4 := by omega
theorem n6 {x c : Int} : (x * 256 + c) % 16 = c % 16 := by omega
theorem n7 {x : Int} : x % 65536 % 4 = x % 4 := Int.emod_emod_of_dvd x (by decide)
theorem n8 {x : Int} : x % 65536 % 16 = x % 16 := Int.emod_emod_of_dvd x (by decide)
theorem enc_3 (out : List Int) (chr a b c : Int) (ha : 0 ≤ a ∧ a < 256) (hb : 0 ≤ b ∧ b < 256) (hc : 0 ≤ c ∧ c < 256) :
    ∃ chr', 0 ≤ chr' ∧ encStep (encStep (encStep (out, 0, chr) a) b) c = (out ++ [b64sgn (a / 4), b64sgn (a % 4 * 16 + b / 16), b64sgn (b % 16 * 4 + c / 64), b64sgn (c % 64)], 0, chr') := by
  refine ⟨((((chr * 256 + a) % 65536 * 256 + b) % 65536) * 256 + c) % 65536, Int.emod_nonneg _ (by decide), ?_⟩
  have e1 := n1 (x := chr) ha
  have e2 := n2 (x := (chr * 256 + a) % 65536) hb
  rw [n7, n5] at e2
  have e3 := n3 (x := ((chr * 256 + a) % 65536 * 256 + b) % 65536) hc
  rw [n8, n6] at e3
  simp [encStep, e1, e2, e3, n4]
theorem enc_all : ∀ (ns : List Int) (out : List Int) (chr : Int), Oct ns → 0 ≤ chr → encTail (ns.foldl encStep (out, 0, chr)) = out ++ pad4 ((places ns).map b64sgn)
  | [], out, chr, h, h0 => by
    have : places [] = [] := by decide +kernel
    rw [this]
    simp [encTail, pad4, pads]
  | [a], out, chr, h, h0 => by
    have ha := h.head
    have e : places [a] = [a / 4, a % 4 * 16] := by
      unfold places
      rw [n9, if_pos rfl, groups86_1 a ha, rest86_1]
      rfl
    rw [e]
    simp [encStep, encTail, pad4, pads, n1 ha, n5]
  | [a, b], out, chr, h, h0 => by
    have ha := h.head
    have hb := h.tail.head
    have e : places [a, b] = [a / 4, a % 4 * 16 + b / 16, b % 16 * 4] := by
      unfold places
      rw [n10, if_pos rfl, groups86_2 a b ha hb, rest86_2 a b hb]
      rfl
    have e2 := n2 (x := (chr * 256 + a) % 65536) hb
    rw [n7, n5] at e2
    rw [e]
    simp [encStep, encTail, pad4, pads, n1 ha, e2, n6]
  | a :: b :: c :: l, out, chr, h, h0 => by
    obtain ⟨chr', h1, e⟩ := enc_3 out chr a b c h.head h.tail.head h.tail.tail.head
    rw [List.foldl_cons, List.foldl_cons, List.foldl_cons, e, enc_all l _ chr' h.tail.tail.tail h1, places_3 a b c l h]
    simp only [List.map_append, List.map_cons, List.map_nil, List.cons_append, List.nil_append, pad4_4, List.append_assoc]
theorem encOut_eq (ns : List Int) (h : Oct ns) : encOut ns = pad4 ((places ns).map b64sgn) := by
  have := enc_all ns [] 0 h (by decide)
  rwa [List.nil_append] at this
theorem sgn64_43 : ∀ k : Fin 64, signAt #[43, 47] (k.val : Int) = b64sgn (k.val : Int) := by decide +kernel
theorem signAt_43 {k : Int} (h : 0 ≤ k ∧ k < 64) : signAt #[43, 47] k = b64sgn k := by
  have := sgn64_43 ⟨k.toNat, by omega⟩
  simp only at this
  rwa [Int.toNat_of_nonneg h.1] at this
theorem encOut_plain (ns : List Int) (h : Oct ns) : encOut ns = spec64 #[43, 47] ns := by
  rw [encOut_eq ns h]
  unfold spec64
  congr 1
  exact List.map_congr_left fun k hk => (signAt_43 (places_in hk)).symm
/-! the table of a pair -/
theorem pair_of {c : Array UInt8} (h : c.size = 2) : ∃ x y, c = #[x, y] := by
  obtain ⟨l⟩ := c
  match l, h with
  | [x, y], _ => exact ⟨x, y, rfl⟩
theorem mkT_get (x y u v : UInt8) (z : UInt8) : (mkT #[x, y] #[u, v]).getD z.toNat z = if z = y then v else if z = x then u else z := by
  have hz : z.toNat < 256 := z.toNat_lt
  have hx : x.toNat < 256 := x.toNat_lt
  have hy : y.toNat < 256 := y.toNat_lt
  unfold mkT
  simp only [List.zip_cons_cons, List.zip_nil_right, List.foldl_cons, List.foldl_nil]
  rw [Array.getD_eq_getD_getElem?]
  simp only [Array.getElem?_setIfInBounds, Array.size_setIfInBounds, Array.size_map, Array.size_range, Array.getElem?_map]
  by_cases e1 : y.toNat = z.toNat
  · have e1' : z = y := (UInt8.toNat_inj.mp e1).symm
    subst e1'
    simp [hz]
  · have e1' : z ≠ y := fun e => e1 (by rw [e])
    rw [if_neg e1, if_neg e1']
    by_cases e2 : x.toNat = z.toNat
    · have e2' : z = x := (UInt8.toNat_inj.mp e2).symm
      subst e2'
      simp [hz]
    · have e2' : z ≠ x := fun e => e2 (by rw [e])
      rw [if_neg e2, if_neg e2']
      simp [hz]
theorem trans_byteArr (T : Array UInt8) (ns : List Int) : trans T (byteArr ns) = byteArr (ns.map fun n => ((T.getD n.toNat.toUInt8.toNat n.toNat.toUInt8).toNat : Int)) := by
  unfold trans byteArr
  simp
theorem sgn_pair (x y : UInt8) : ∀ k : Fin 64, ((if (b64sgn (k.val : Int)).toNat.toUInt8 = 47 then y else if (b64sgn (k.val : Int)).toNat.toUInt8 = 43 then x else (b64sgn (k.val : Int)).toNat.toUInt8).toNat : Int) = (signs62 ++ [(x.toNat : Int), (y.toNat : Int)]).getD k.val 0 := by
  intro ⟨k, hk⟩
  by_cases h : k < 62
  · have e : (signs62 ++ [(x.toNat : Int), (y.toNat : Int)]).getD k 0 = signs62.getD k 0 := by
      rw [List.getD_eq_getElem?_getD, List.getElem?_append_left (by simpa using h), ← List.getD_eq_getElem?_getD]
    have H : ∀ j : Fin 62, (b64sgn (j.val : Int)).toNat.toUInt8 ≠ 47 ∧ (b64sgn (j.val : Int)).toNat.toUInt8 ≠ 43 ∧ ((b64sgn (j.val : Int)).toNat.toUInt8.toNat : Int) = signs62.getD j.val 0 := by decide +kernel
    have H := H ⟨k, h⟩
    simp only at H ⊢
    rw [if_neg H.1, if_neg H.2.1, H.2.2, e]
  · obtain rfl | rfl : k = 62 ∨ k = 63 := by omega
    · rfl
    · rfl
theorem trans_sign (x y : UInt8) {k : Int} (h : 0 ≤ k ∧ k < 64) : (((mkT #[43, 47] #[x, y]).getD (b64sgn k).toNat.toUInt8.toNat (b64sgn k).toNat.toUInt8).toNat : Int) = signAt #[x, y] k := by
  rw [mkT_get]
  have := sgn_pair x y ⟨k.toNat, by omega⟩
  simp only at this
  rw [Int.toNat_of_nonneg h.1] at this
  exact this
theorem trans_spec (c : Array UInt8) (hc : c.size = 2) (ns : List Int) (h : Oct ns) : trans (mkT #[43, 47] c) (byteArr (encOut ns)) = byteArr (spec64 c ns) := by
  obtain ⟨x, y, rfl⟩ := pair_of hc
  rw [encOut_eq ns h, trans_byteArr]
  congr 1
  unfold spec64 pad4
  rw [List.map_append, List.map_map, List.map_replicate]
  congr 1
  · exact List.map_congr_left fun k hk => trans_sign x y (places_in hk)
  · rw [mkT_get, List.length_map, List.length_map]
    rfl
/-! base 16 -/
theorem hex_sign : ∀ k : Fin 16, Builtin.Bytes.toUpper (Builtin.Bytes.hexDigit k.val).toUInt8 = (sgn16 (k.val : Int)).toNat.toUInt8 := by decide +kernel
theorem h16_aux : ∀ l : List UInt8, ((l.flatMap fun c => [Builtin.Bytes.hexDigit (c.toNat / 16), Builtin.Bytes.hexDigit (c.toNat % 16)]).map (·.toUInt8)).map Builtin.Bytes.toUpper = (((regGroups 8 4 (l.map fun c => (c.toNat : Int))).map sgn16).map fun n => n.toNat.toUInt8)
  | [] => by
    have : regGroups 8 4 [] = [] := by decide +kernel
    simp [this]
  | c :: l => by
    have hc : c.toNat < 256 := c.toNat_lt
    have e := regGroups_append (old := 8) (new := 4) [(c.toNat : Int)] (l.map fun c => (c.toNat : Int)) (by simp) (by decide) (fun v hv => by
      obtain ⟨d, _, rfl⟩ := List.mem_map.mp hv
      have : d.toNat < 256 := d.toNat_lt
      omega)
    rw [groups84 _ (by omega)] at e
    simp only [List.cons_append, List.nil_append] at e
    rw [List.map_cons, e, List.flatMap_cons, List.map_append, List.map_append, h16_aux l]
    have h1 := hex_sign ⟨c.toNat / 16, by omega⟩
    have h2 := hex_sign ⟨c.toNat % 16, by omega⟩
    simp only [Int.natCast_ediv, Int.natCast_emod] at h1 h2
    simp only [List.map_cons, List.map_nil, List.cons_append, List.nil_append, h1, h2]
    rfl
theorem h16_all (b : Array UInt8) : upped ((hexCps b).map (·.toUInt8)) = byteArr ((regGroups 8 4 (KBw.bInts b)).map sgn16) := by
  unfold upped byteArr KBw.bInts
  congr 1
  rw [Array.toList_map, hexCps_list, h16_aux]
end

set_option linter.all false
section
/-! base 16, read -/
def figR (fold : Bool) : List Int → Option (List Int)
  | [] => some []
  | x :: l => (fig16 fold x).bind fun y => (figR fold l).map (y :: ·)
theorem figs_none (fold : Bool) (l : List Int) : l.foldl (fun o x => o.bind fun l => (fig16 fold x).map fun y => l ++ [y]) (none : Option (List Int)) = none := by
  induction l with
  | nil => rfl
  | cons x l ih => exact ih
theorem figs_some (fold : Bool) (l : List Int) : ∀ acc : List Int, l.foldl (fun o x => o.bind fun l => (fig16 fold x).map fun y => l ++ [y]) (some acc) = (figR fold l).map (acc ++ ·) := by
  induction l with
  | nil => intro acc; simp [figR]
  | cons x l ih =>
    intro acc
    rw [List.foldl_cons, figR]
    cases h : fig16 fold x with
    | none => exact figs_none fold l
    | some y =>
      simp only [Option.bind_some, Option.map_some]
      rw [ih]
      cases figR fold l with
      | none => rfl
      | some r => simp
theorem figs16_eq (fold : Bool) (l : List Int) : figs16 fold l = figR fold l := by
  unfold figs16
  rw [figs_some]
  cases figR fold l with
  | none => rfl
  | some r => simp
def hexOk (c : Int) : Bool := decide (48 ≤ c ∧ c ≤ 57) || decide (65 ≤ c ∧ c ≤ 70)
theorem fig16_false (x : Int) : fig16 false x = if hexOk x = true then some (hexval x) else none := by
  unfold fig16 hexOk hexval
  by_cases h1 : 48 ≤ x ∧ x ≤ 57
  · simp [h1]
  · by_cases h2 : 65 ≤ x ∧ x ≤ 70
    · simp [h1, h2]
    · simp [h1, h2]
theorem hexOk_val {x : Int} (h : hexOk x = true) : 0 ≤ hexval x ∧ hexval x < 16 := by
  unfold hexOk at h
  simp only [Bool.or_eq_true, decide_eq_true_eq] at h
  unfold hexval
  (repeat' split) <;> omega
theorem figR_false : ∀ l : List Int, figR false l = if l.all hexOk = true then some (l.map hexval) else none
  | [] => rfl
  | x :: l => by
    rw [figR, fig16_false, figR_false l, List.all_cons]
    by_cases h : hexOk x = true
    · rw [if_pos h, h, Bool.true_and]
      by_cases h2 : l.all hexOk = true
      · rw [if_pos h2, if_pos h2]; rfl
      · rw [if_neg h2, if_neg h2]; rfl
    · have h' : hexOk x = false := by simpa using h
      rw [if_neg h, h', Bool.false_and, if_neg Bool.false_ne_true]
      rfl
theorem hexDec_groups : ∀ l : List Int, (∀ v ∈ l, 0 ≤ hexval v ∧ hexval v < 16) → (if regMore 4 8 (l.map hexval) = true then none else some (regGroups 4 8 (l.map hexval))) = hexDec l
  | [], _ => by decide +kernel
  | [a], _ => by
    rw [if_pos (by simp [regMore])]
    rfl
  | a :: b :: r, h => by
    have ha := h a (.head _)
    have hb := h b (.tail _ (.head _))
    have ih := hexDec_groups r fun v hv => h v (.tail _ (.tail _ hv))
    have e := regGroups_append (old := 4) (new := 8) [hexval a, hexval b] (r.map hexval) (by simp) (by decide) (fun v hv => by
      obtain ⟨d, hd, rfl⟩ := List.mem_map.mp hv
      exact h d (.tail _ (.tail _ hd)))
    have e2 := regMore_append (old := 4) (new := 8) [hexval a, hexval b] (r.map hexval) (by simp)
    rw [groups48 _ _ ha hb] at e
    simp only [List.cons_append, List.nil_append] at e e2
    rw [List.map_cons, List.map_cons, e, e2, hexDec, if_neg (show ¬(16 ≤ hexval a ∨ 16 ≤ hexval b) by omega), ← ih]
    split <;> rfl
theorem from16_false (b : Array UInt8) : from16 false (KBw.bInts b) = if allHex b = true then hexDec (KBw.bInts b) else none := by
  unfold from16
  rw [figs16_eq, figR_false]
  show ((if (KBw.bInts b).all hexOk = true then some ((KBw.bInts b).map hexval) else none : Option (List Int)).bind _) = if (KBw.bInts b).all hexOk = true then _ else none
  by_cases h : (KBw.bInts b).all hexOk = true
  · rw [if_pos h, if_pos h]
    exact hexDec_groups _ fun v hv => hexOk_val (List.all_eq_true.mp h v hv)
  · rw [if_neg h, if_neg h]
    rfl
def upI (x : Int) : Int := if 97 ≤ x ∧ x ≤ 122 then x - 32 else x
theorem up_fin : ∀ n : Fin 256, (((Builtin.Bytes.toUpper (n.val.toUInt8)).toNat : Nat) : Int) = upI (n.val : Int) := by decide +kernel
theorem up_octet (c : UInt8) : ((Builtin.Bytes.toUpper c).toNat : Int) = upI (c.toNat : Int) := by
  have := up_fin ⟨c.toNat, c.toNat_lt⟩
  simpa using this
theorem fig16_up {x : Int} : fig16 true x = fig16 false (upI x) := by
  unfold fig16
  by_cases h : 97 ≤ x ∧ x ≤ 122
  · rw [show upI x = x - 32 from if_pos h, if_neg (show ¬(48 ≤ x ∧ x ≤ 57) by omega), if_neg (show ¬(65 ≤ x ∧ x ≤ 70) by omega), if_neg (show ¬(48 ≤ x - 32 ∧ x - 32 ≤ 57) by omega)]
    by_cases h3 : x ≤ 102
    · rw [if_pos (show true = true ∧ 97 ≤ x ∧ x ≤ 102 from ⟨rfl, by omega, h3⟩), if_pos (show 65 ≤ x - 32 ∧ x - 32 ≤ 70 by omega)]
      congr 1
      omega
    · rw [if_neg (show ¬(true = true ∧ 97 ≤ x ∧ x ≤ 102) by omega), if_neg (show ¬(65 ≤ x - 32 ∧ x - 32 ≤ 70) by omega), if_neg (by simp)]
  · rw [show upI x = x from if_neg h]
    by_cases h1 : 48 ≤ x ∧ x ≤ 57
    · rw [if_pos h1, if_pos h1]
    · rw [if_neg h1, if_neg h1]
      by_cases h2 : 65 ≤ x ∧ x ≤ 70
      · rw [if_pos h2, if_pos h2]
      · rw [if_neg h2, if_neg h2, if_neg (show ¬(true = true ∧ 97 ≤ x ∧ x ≤ 102) by omega), if_neg (by simp)]
theorem figR_up : ∀ l : List Int, figR true l = figR false (l.map upI)
  | [] => rfl
  | x :: l => by rw [List.map_cons, figR, figR, fig16_up, figR_up l]
theorem bInts_upped (b : Array UInt8) : KBw.bInts (upped b) = (KBw.bInts b).map upI := by
  unfold KBw.bInts upped
  rw [List.map_map, List.map_map]
  apply List.map_congr_left
  intro c _
  exact up_octet c
theorem from16_true (b : Array UInt8) : from16 true (KBw.bInts b) = if allHex (upped b) = true then hexDec (KBw.bInts (upped b)) else none := by
  rw [← from16_false, bInts_upped]
  unfold from16
  rw [figs16_eq, figs16_eq, figR_up]
end

set_option linter.all false
section
/-! base 64, read -/
abbrev DSt := List Int × Int × Int
def dstep (st : DSt) (v : Int) : DSt :=
  if st.2.1 = 0 then (st.1, 1, v)
  else if st.2.1 = 1 then (st.1 ++ [st.2.2 * 4 + v / 16], 2, v % 16)
  else if st.2.1 = 2 then (st.1 ++ [st.2.2 * 16 + v / 4], 3, v % 4)
  else (st.1 ++ [st.2.2 * 64 + v], 0, 0)
def dq (P : List Int) : DSt := P.foldl dstep ([], 0, 0)
theorem dq_snoc (P : List Int) (v : Int) : dq (P ++ [v]) = dstep (dq P) v := by simp [dq]
theorem dq_q (P : List Int) : (dq P).2.1 = (P.length : Int) % 4 := by
  have key : ∀ (P : List Int) (st : DSt), 0 ≤ st.2.1 → st.2.1 < 4 → (P.foldl dstep st).2.1 = (st.2.1 + (P.length : Int)) % 4 := by
    intro P
    induction P with
    | nil => intro st h0 h1; simp only [List.foldl_nil, List.length_nil]; omega
    | cons v P ih =>
      intro st h0 h1
      have e : (dstep st v).2.1 = (st.2.1 + 1) % 4 := by
        unfold dstep
        split
        · rename_i h; rw [h]; rfl
        · split
          · rename_i h; rw [h]; rfl
          · split
            · rename_i h; rw [h]; rfl
            · show (0 : Int) = _
              omega
      rw [List.foldl_cons, ih _ (by rw [e]; omega) (by rw [e]; omega), e, List.length_cons]
      omega
  have := key P ([], 0, 0) (by decide) (by decide)
  simpa [dq] using this
def Sgn (P : List Int) : Prop := ∀ v ∈ P, 0 ≤ v ∧ v < 64
theorem Sgn.head {a : Int} {l : List Int} (h : Sgn (a :: l)) : 0 ≤ a ∧ a < 64 := h a (.head _)
theorem Sgn.tail {a : Int} {l : List Int} (h : Sgn (a :: l)) : Sgn l := fun v hv => h v (.tail _ hv)
theorem Sgn.snoc {v : Int} {l : List Int} (h : Sgn l) (hv : 0 ≤ v ∧ v < 64) : Sgn (l ++ [v]) := fun x hx => by
  rcases List.mem_append.mp hx with hx | hx
  · exact h x hx
  · rw [List.mem_singleton.mp hx]; exact hv
theorem dq_all : ∀ (P out : List Int), Sgn P → (P.foldl dstep (out, 0, 0)).1 = out ++ regGroups 6 8 P
  | [], out, _ => by
    have : regGroups 6 8 [] = [] := by decide +kernel
    simp [this]
  | [a], out, h => by
    have : regGroups 6 8 [a] = [] := by rw [regGroups_nat]; simp
    simp [this, dstep]
  | [a, b], out, h => by
    rw [groups68_2 a b h.head h.tail.head]
    simp [dstep]
  | [a, b, c], out, h => by
    rw [groups68_3 a b c h.head h.tail.head h.tail.tail.head]
    simp [dstep]
  | a :: b :: c :: d :: l, out, h => by
    have e := regGroups_append (old := 6) (new := 8) [a, b, c, d] l (by simp) (by decide) h.tail.tail.tail.tail
    rw [groups68_4 a b c d h.head h.tail.head h.tail.tail.head h.tail.tail.tail.head] at e
    simp only [List.cons_append, List.nil_append] at e
    have e2 : (a :: b :: c :: d :: l).foldl dstep (out, 0, 0) = l.foldl dstep (out ++ [a * 4 + b / 16, b % 16 * 16 + c / 4, c % 4 * 64 + d], 0, 0) := by
      simp [dstep]
    rw [e2, dq_all l _ h.tail.tail.tail.tail, e]
    simp
theorem dq_out (P : List Int) (h : Sgn P) : (dq P).1 = regGroups 6 8 P := by
  have := dq_all P [] h
  rwa [List.nil_append] at this
def mkD (d : DSt) (p : Int) : DecSt := (d.1, d.2.1, d.2.2, p)
theorem decStep_data {strict : Bool} {d : DSt} {p n : Int} (h1 : n ≠ 61) (h2 : b64val n < 64) (h3 : ¬(p ≠ 0 ∧ strict = true)) : decStep strict (mkD d p) n = some (mkD (dstep d (b64val n)) 0) := by
  unfold decStep mkD dstep
  rw [if_neg h1, if_neg (show ¬ 64 ≤ b64val n by omega), if_neg h3]
  (repeat' split) <;> first | rfl | contradiction
theorem decStep_skip {strict : Bool} {d : DSt} {p n : Int} (h1 : n ≠ 61) (h2 : 64 ≤ b64val n) : decStep strict (mkD d p) n = if strict = true then none else some (mkD d p) := by
  unfold decStep
  rw [if_neg h1, if_pos h2]
theorem decStep_pad {strict : Bool} {d : DSt} {p : Int} : decStep strict (mkD d p) 61 = if strict = false ∨ (2 ≤ d.2.1 ∧ d.2.1 + (p + 1) ≤ 4) then some (mkD d (p + 1)) else none := by
  unfold decStep mkD
  rw [if_pos rfl]
  cases strict with
  | false => simp
  | true => simp
theorem dec_none (strict : Bool) (l : List Int) : l.foldl (fun st n => st.bind (decStep strict · n)) (none : Option DecSt) = none := by
  induction l with
  | nil => rfl
  | cons n l ih => exact ih
/-- what the table says -/
structure TabOk (T : List Int) : Prop where
  pad : at64 T 61 = 64
  off : ∀ x, 0 ≤ x → x < 256 → x ≠ 61 → 64 ≤ b64val x → at64 T x = 65
  val : ∀ x, 0 ≤ x → x < 256 → x ≠ 61 → b64val x < 64 → at64 T x = b64val x
theorem tab64_lit : tab64 = (List.range 256).map fun (n : Nat) => if n = 61 then (64 : Int) else if b64val (n : Int) < 64 then b64val (n : Int) else 65 := by decide +kernel
theorem tab64_at {x : Int} (h0 : 0 ≤ x) (h1 : x < 256) : at64 tab64 x = if x = 61 then 64 else if b64val x < 64 then b64val x else 65 := by
  obtain ⟨n, rfl⟩ := Int.eq_ofNat_of_zero_le h0
  unfold at64
  rw [tab64_lit, Int.toNat_natCast, List.getD_eq_getElem?_getD, List.getElem?_map, List.getElem?_range (by omega)]
  simp only [Option.map_some, Option.getD_some]
  by_cases h : n = 61
  · subst h; rfl
  · rw [if_neg h, if_neg (show ¬((n : Int) = 61) by omega)]
theorem tab64_ok : TabOk tab64 where
  pad := by rw [tab64_at (by decide) (by decide)]; rfl
  off := fun x h0 h1 h2 h3 => by rw [tab64_at h0 h1, if_neg h2, if_neg (by omega)]
  val := fun x h0 h1 h2 h3 => by rw [tab64_at h0 h1, if_neg h2, if_pos h3]
abbrev run64 (T : List Int) (strict : Bool) (st : St64) (ns : List Int) : St64 := ns.foldl (fun st x => st.bind fun q => step64 T strict q x) st
abbrev runD (strict : Bool) (st : Option DecSt) (ns : List Int) : Option DecSt := ns.foldl (fun st n => st.bind (decStep strict · n)) st
theorem step_pad {T : List Int} (h : TabOk T) {strict : Bool} {P : List Int} {p : Int} : step64 T strict (P, p) 61 = .ok (P, p + 1) := by
  unfold step64
  rw [if_pos h.pad]
theorem step_off {T : List Int} (h : TabOk T) {strict : Bool} {P : List Int} {p x : Int} (h0 : 0 ≤ x) (h1 : x < 256) (h2 : x ≠ 61) (h3 : 64 ≤ b64val x) : step64 T strict (P, p) x = if strict = true then .error (some none) else .ok (P, p) := by
  unfold step64
  rw [h.off x h0 h1 h2 h3, if_neg (by decide), if_pos rfl]
theorem step_val {T : List Int} (h : TabOk T) {strict : Bool} {P : List Int} {p x : Int} (h0 : 0 ≤ x) (h1 : x < 256) (h2 : x ≠ 61) (h3 : b64val x < 64) : step64 T strict (P, p) x = if p ≠ 0 then .error (if strict = true then some none else none) else .ok (P ++ [b64val x], p) := by
  unfold step64
  rw [h.val x h0 h1 h2 h3, if_neg (by omega), if_neg (by omega)]
/-- the passing-over reading -/
theorem loose_run {T : List Int} (hT : TabOk T) : ∀ (ns P : List Int) (p : Int), Oct ns → Sgn P → 0 ≤ p →
    (run64 T false (.ok (P, p)) ns = .error none) ∨ ∃ P' p', run64 T false (.ok (P, p)) ns = .ok (P', p') ∧ Sgn P' ∧ 0 ≤ p' ∧ runD false (some (mkD (dq P) p)) ns = some (mkD (dq P') p')
  | [], P, p, _, hP, h0 => .inr ⟨P, p, rfl, hP, h0, rfl⟩
  | n :: l, P, p, hn, hP, h0 => by
    have hh := hn.head
    show (run64 T false (step64 T false (P, p) n) l = _) ∨ ∃ P' p', run64 T false (step64 T false (P, p) n) l = _ ∧ _ ∧ _ ∧ runD false (decStep false (mkD (dq P) p) n) l = _
    by_cases e : n = 61
    · subst e
      rw [step_pad hT, decStep_pad, if_pos (.inl rfl)]
      exact loose_run hT l P (p + 1) hn.tail hP (by omega)
    · by_cases h3 : 64 ≤ b64val n
      · rw [step_off hT hh.1 hh.2 e h3, decStep_skip e h3, if_neg (by decide), if_neg (by decide)]
        exact loose_run hT l P p hn.tail hP h0
      · have h3 : b64val n < 64 := by omega
        rw [step_val hT hh.1 hh.2 e h3, decStep_data e h3 (by simp)]
        by_cases hp : p = 0
        · subst hp
          rw [if_neg (by simp), ← dq_snoc]
          exact loose_run hT l (P ++ [b64val n]) 0 hn.tail (hP.snoc ⟨(b64val_in n).1, h3⟩) (by decide)
        · rw [if_pos hp, if_neg (by decide)]
          exact .inl (fold64_err T false l none)
def Good (P : List Int) (p : Int) : Prop := p = 0 ∨ (2 ≤ (dq P).2.1 ∧ (dq P).2.1 + p ≤ 4)
open Classical in
noncomputable def SD (P : List Int) (p : Int) : Option DecSt := if Good P p then some (mkD (dq P) p) else none
theorem SD_pos {P : List Int} {p : Int} (h : Good P p) : SD P p = some (mkD (dq P) p) := if_pos h
theorem SD_neg {P : List Int} {p : Int} (h : ¬Good P p) : SD P p = none := if_neg h
/-- the strict reading -/
theorem strict_run {T : List Int} (hT : TabOk T) : ∀ (ns P : List Int) (p : Int), Oct ns → Sgn P → 0 ≤ p →
    (run64 T true (.ok (P, p)) ns = .error (some none) ∧ runD true (SD P p) ns = none) ∨ ∃ P' p', run64 T true (.ok (P, p)) ns = .ok (P', p') ∧ Sgn P' ∧ 0 ≤ p' ∧ runD true (SD P p) ns = SD P' p'
  | [], P, p, _, hP, h0 => .inr ⟨P, p, rfl, hP, h0, rfl⟩
  | n :: l, P, p, hn, hP, h0 => by
    have hh := hn.head
    show (run64 T true (step64 T true (P, p) n) l = _ ∧ runD true ((SD P p).bind (decStep true · n)) l = _) ∨ ∃ P' p', run64 T true (step64 T true (P, p) n) l = _ ∧ _ ∧ _ ∧ runD true ((SD P p).bind (decStep true · n)) l = _
    by_cases e : n = 61
    · subst e
      have es : (SD P p).bind (decStep true · 61) = SD P (p + 1) := by
        by_cases g : Good P p
        · rw [SD_pos g, Option.bind_some, decStep_pad]
          by_cases g2 : Good P (p + 1)
          · rw [SD_pos g2, if_pos]
            rcases g2 with g2 | g2
            · omega
            · exact .inr g2
          · rw [SD_neg g2, if_neg]
            rintro (h | h)
            · cases h
            · exact g2 (.inr h)
        · rw [SD_neg g, SD_neg (P := P) (p := p + 1)]
          · rfl
          · rintro (h | h)
            · omega
            · exact g (.inr ⟨h.1, by omega⟩)
      rw [step_pad hT, es]
      exact strict_run hT l P (p + 1) hn.tail hP (by omega)
    · by_cases h3 : 64 ≤ b64val n
      · left
        rw [step_off hT hh.1 hh.2 e h3, if_pos rfl]
        refine ⟨fold64_err T true l _, ?_⟩
        have es : (SD P p).bind (decStep true · n) = none := by
          by_cases g : Good P p
          · rw [SD_pos g, Option.bind_some, decStep_skip e h3, if_pos rfl]
          · rw [SD_neg g]; rfl
        rw [es]
        exact dec_none true l
      · have h3 : b64val n < 64 := by omega
        rw [step_val hT hh.1 hh.2 e h3]
        by_cases hp : p = 0
        · subst hp
          rw [if_neg (by simp), SD_pos (.inl rfl), Option.bind_some, decStep_data e h3 (by simp), ← dq_snoc, ← SD_pos (.inl rfl)]
          exact strict_run hT l (P ++ [b64val n]) 0 hn.tail (hP.snoc ⟨(b64val_in n).1, h3⟩) (by decide)
        · left
          rw [if_pos hp, if_pos rfl]
          refine ⟨fold64_err T true l _, ?_⟩
          have es : (SD P p).bind (decStep true · n) = none := by
            by_cases g : Good P p
            · rw [SD_pos g, Option.bind_some]
              unfold decStep
              rw [if_neg e, if_neg (by omega), if_pos (show (mkD (dq P) p).2.2.2 ≠ 0 ∧ true = true from ⟨hp, rfl⟩)]
            · rw [SD_neg g]; rfl
          rw [es]
          exact dec_none true l
theorem lim_at {q : Int} (h0 : 0 ≤ q) (h1 : q < 4) : lim64 q = if q = 0 then 0 else 4 - q := by
  obtain rfl | rfl | rfl | rfl : q = 0 ∨ q = 1 ∨ q = 2 ∨ q = 3 := by omega
  all_goals rfl
/-- the two ends agree -/
theorem ends_loose {P : List Int} {p : Int} (hP : Sgn P) (h0 : 0 ≤ p) : fin64 (P, p) = none ∨ fin64 (P, p) = some (decFin (mkD (dq P) p)) := by
  have q0 : 0 ≤ (P.length : Int) % 4 := by omega
  have q1 : (P.length : Int) % 4 < 4 := by omega
  have e := dq_q P
  have eo := dq_out P hP
  unfold fin64 decFin mkD
  simp only
  rw [e, eo, lim_at q0 q1]
  generalize (P.length : Int) % 4 = q at q0 q1
  by_cases h : (if q = 0 then 0 else 4 - q) < p
  · left; rw [if_pos h]
  · right
    rw [if_neg h]
    obtain rfl | rfl | rfl | rfl : q = 0 ∨ q = 1 ∨ q = 2 ∨ q = 3 := by omega
    · simp
    · simp
    · have h : p ≤ 2 := by simpa using h
      by_cases h2 : p = 2
      · subst h2; simp
      · rw [if_pos (show (2 : Int) = 1 ∨ ((2 : Int) = 2 ∧ p ≠ 2) ∨ ((2 : Int) = 3 ∧ p ≠ 1) from .inr (.inl ⟨rfl, h2⟩)), if_neg (show ¬((2 : Int) = 1) by decide), if_pos (show (2 : Int) ≠ 0 ∧ 2 + p < 4 from ⟨by decide, by omega⟩)]
    · have h : p ≤ 1 := by simpa using h
      by_cases h2 : p = 1
      · subst h2; simp
      · rw [if_pos (show (3 : Int) = 1 ∨ ((3 : Int) = 2 ∧ p ≠ 2) ∨ ((3 : Int) = 3 ∧ p ≠ 1) from .inr (.inr ⟨rfl, h2⟩)), if_neg (show ¬((3 : Int) = 1) by decide), if_pos (show (3 : Int) ≠ 0 ∧ 3 + p < 4 from ⟨by decide, by omega⟩)]
theorem ends_strict {P : List Int} {p : Int} (hP : Sgn P) (h0 : 0 ≤ p) : fin64 (P, p) = none ∨ fin64 (P, p) = some ((SD P p).bind decFin) := by
  by_cases g : Good P p
  · rw [SD_pos g]
    exact ends_loose hP h0
  · rw [SD_neg g]
    have q0 : 0 ≤ (P.length : Int) % 4 := by omega
    have q1 : (P.length : Int) % 4 < 4 := by omega
    unfold Good at g
    rw [dq_q P] at g
    unfold fin64
    simp only
    rw [lim_at q0 q1]
    generalize (P.length : Int) % 4 = q at q0 q1 g
    by_cases h : (if q = 0 then 0 else 4 - q) < p
    · left; rw [if_pos h]
    · right
      rw [if_neg h]
      obtain rfl | rfl | rfl | rfl : q = 0 ∨ q = 1 ∨ q = 2 ∨ q = 3 := by omega
      · simp at h; omega
      · rfl
      · simp at h; omega
      · simp at h; omega
theorem from64_run (T : List Int) (strict : Bool) (ns : List Int) : from64 T strict ns = match run64 T strict (.ok ([], 0)) ns with | .error r => r | .ok st => fin64 st := rfl
theorem decOut_run (strict : Bool) (ns : List Int) : decOut strict ns = (runD strict (some (mkD (dq []) 0)) ns).bind decFin := rfl
theorem from64_dec {T : List Int} (hT : TabOk T) (strict : Bool) (ns : List Int) (h : Oct ns) : from64 T strict ns = none ∨ from64 T strict ns = some (decOut strict ns) := by
  rw [from64_run, decOut_run]
  cases strict with
  | false =>
    have h := loose_run hT ns [] 0 h (fun _ h => nomatch h) (by decide)
    rcases h with h | ⟨P, p, e, hP, h0, e2⟩
    · left
      rw [h]
    · rw [e, e2]
      exact ends_loose hP h0
  | true =>
    have h := strict_run hT ns [] 0 h (fun _ h => nomatch h) (by decide)
    rw [SD_pos (.inl rfl)] at h
    rcases h with ⟨e, e2⟩ | ⟨P, p, e, hP, h0, e2⟩
    · right
      rw [e, e2]
      rfl
    · rw [e, e2]
      exact ends_strict hP h0
/-! the table of a pair is the plain table behind the pair's turn -/
def trI (c : Array UInt8) (x : Int) : Int := if x = pairAt c 1 then 47 else if x = pairAt c 0 then 43 else x
theorem at_set (T : List Int) (a v x : Int) (ha : 0 ≤ a) (hl : a < T.length) (hx : 0 ≤ x) : at64 (T.set a.toNat v) x = if x = a then v else at64 T x := by
  unfold at64
  rw [List.getD_eq_getElem?_getD, List.getD_eq_getElem?_getD, List.getElem?_set]
  by_cases h : x = a
  · subst h
    rw [if_pos rfl, if_pos rfl, if_pos (by omega)]
    rfl
  · rw [if_neg h, if_neg (by omega)]
theorem tab64_len : tab64.length = 256 := by rw [tab64_lit]; simp
theorem tabPair_at (c : Array UInt8) {x : Int} (h0 : 0 ≤ x) (h1 : x < 256) : at64 (tabPair c) x = at64 tab64 (trI c x) := by
  have p0 := pairAt_in c 0
  have p1 := pairAt_in c 1
  unfold tabPair trI
  rw [at_set _ _ _ _ p1.1 (by rw [List.length_set, tab64_len]; omega) h0, at_set _ _ _ _ p0.1 (by rw [tab64_len]; omega) h0]
  by_cases e1 : x = pairAt c 1
  · rw [if_pos e1, if_pos e1, tab64_at (by decide) (by decide)]; rfl
  · rw [if_neg e1, if_neg e1]
    by_cases e0 : x = pairAt c 0
    · rw [if_pos e0, if_pos e0, tab64_at (by decide) (by decide)]; rfl
    · rw [if_neg e0, if_neg e0]
theorem step_pair (c : Array UInt8) (strict : Bool) (st : List Int × Int) {x : Int} (h0 : 0 ≤ x) (h1 : x < 256) : step64 (tabPair c) strict st x = step64 tab64 strict st (trI c x) := by
  unfold step64
  rw [tabPair_at c h0 h1]
theorem run_pair (c : Array UInt8) (strict : Bool) : ∀ (ns : List Int) (st : St64), Oct ns → run64 (tabPair c) strict st ns = run64 tab64 strict st (ns.map (trI c))
  | [], _, _ => rfl
  | n :: l, st, h => by
    have hh := h.head
    rw [List.map_cons]
    show run64 (tabPair c) strict (st.bind fun q => step64 (tabPair c) strict q n) l = run64 tab64 strict (st.bind fun q => step64 tab64 strict q (trI c n)) (l.map (trI c))
    have e : (fun q => step64 (tabPair c) strict q n) = fun q => step64 tab64 strict q (trI c n) := funext fun q => step_pair c strict q hh.1 hh.2
    rw [e]
    exact run_pair c strict l _ h.tail
theorem from64_pair (c : Array UInt8) (strict : Bool) (ns : List Int) (h : Oct ns) : from64 (tabPair c) strict ns = from64 tab64 strict (ns.map (trI c)) := by
  unfold from64
  rw [show fold64 (tabPair c) strict ns = fold64 tab64 strict (ns.map (trI c)) from run_pair c strict ns _ h]
theorem bInts_trans (c b : Array UInt8) (hc : c.size = 2) : KBw.bInts (trans (mkT c #[43, 47]) b) = (KBw.bInts b).map (trI c) := by
  obtain ⟨x, y, rfl⟩ := pair_of hc
  unfold KBw.bInts trans
  rw [Array.toList_map, List.map_map, List.map_map]
  apply List.map_congr_left
  intro z _
  simp only [Function.comp_apply]
  rw [mkT_get]
  unfold trI
  show _ = if (z.toNat : Int) = (y.toNat : Int) then 47 else if (z.toNat : Int) = (x.toNat : Int) then 43 else (z.toNat : Int)
  have iy : ((z.toNat : Int) = (y.toNat : Int)) ↔ z = y := by rw [Int.natCast_inj, UInt8.toNat_inj]
  have ix : ((z.toNat : Int) = (x.toNat : Int)) ↔ z = x := by rw [Int.natCast_inj, UInt8.toNat_inj]
  by_cases e1 : z = y
  · rw [if_pos e1, if_pos (iy.mpr e1)]; rfl
  · rw [if_neg e1, if_neg (fun h => e1 (iy.mp h))]
    by_cases e0 : z = x
    · rw [if_pos e0, if_pos (ix.mpr e0)]; rfl
    · rw [if_neg e0, if_neg (fun h => e0 (ix.mp h))]
theorem pair_dec (c b : Array UInt8) (hc : c.size = 2) (strict : Bool) : from64 (tabPair c) strict (KBw.bInts b) = none ∨ from64 (tabPair c) strict (KBw.bInts b) = some (decOut strict (KBw.bInts (trans (mkT c #[43, 47]) b))) := by
  rw [from64_pair c strict _ (bInts_oct b), ← bInts_trans c b hc]
  exact from64_dec tab64_ok strict _ (bInts_oct _)
theorem look_ok (b c : Array UInt8) (hc : c.size = 2) : LookOk tab64 (tabPair c) (tabPair #[45, 95]) b c where
  h16 := h16_all b
  h64 := by rw [encOut_plain _ (bInts_oct b)]
  hurl := trans_spec #[45, 95] rfl _ (bInts_oct b)
  hpair := trans_spec c hc _ (bInts_oct b)
  due := fun k hk => by
    match k, hk with
    | 0, _ => exact .inr (congrArg some (from16_false b))
    | 1, _ => exact .inr (congrArg some (from16_true b))
    | 2, _ => exact from64_dec tab64_ok false _ (bInts_oct b)
    | 3, _ => exact from64_dec tab64_ok true _ (bInts_oct b)
    | 4, _ => exact pair_dec c b hc false
    | 5, _ => exact pair_dec c b hc true
    | 6, _ => exact from64_dec tab64_ok false _ (bInts_oct b)
    | 7, _ => exact pair_dec #[45, 95] b rfl false
end

theorem reset40 : True := by
  w_top off
  k_with_none
  trivial

section
section
abbrev EndRow (rv : List Value) (h₀ : Heap) (L I : Addr) (ks : List Str) (oI : Obj) (fixed : Addr × Obj) (nx₀ : List (Addr × Obj)) (s : Shared) (Q : Flow → Shared → Prop) (f : Flow) (s₂ : Shared) : Prop :=
  EndZ (Z := Array UInt8 × Tok) (fun z => z.1.size ≤ 12) h₀ L I ks (fun z => .bytes z.1 z.2 :: rv) oI fixed (fun nx => nx = nx₀) s Q f s₂
theorem EndRow.next {rv : List Value} {h₀ : Heap} {L I : Addr} {ks : List Str} {oI : Obj} {fixed : Addr × Obj} {Q : Flow → Shared → Prop} {b : Array UInt8} {t : Tok} {h' : Heap} {s : Shared} {tk' : Nat} {m' : Str → Option Value} {nx nx' : List (Addr × Obj)}
    (hz : b.size ≤ 12) (ho : ∀ p ∈ nx, p.1 ≠ I) (hm : fixed ∈ nx) (F' : Fr h₀ L h' m') (N' : News h₀ L h' nx') (hn : ∀ p ∈ (I, oI) :: nx, p ∈ nx') (hk : ks.map m' = (.bytes b t :: rv).map some) : EndRow rv h₀ L I ks oI fixed nx s Q .next { s with heap := h', toks := tk' } :=
  EndZ.next (b, t) hz ho hm rfl F' (fun p hp => N' p (hn p hp)) hk
section
variable {prog : Program} {w : World} {A : Around} {E : Value → Shared → Prop} {s : Shared} {env : Env}
theorem listRow {b₀ : Array UInt8} {t₀ : Tok} {rv : List Value} {l : Addr} {ws : List Value} {nl : Nat} {h₀ : Heap} {x : Str} {px : Pos} {body : List Stmt} {Q : Flow → Shared → Prop} {m₀ : Str → Option Value} {nx₀ : List (Addr × Obj)} (ks : List Str)
    (hx : env.kindOf x = some .local) (hp : (env.scope.kind == .class || (env.scope.kind == .module && env.locals != env.globals)) = false)
    (hh : A.handled = none) (F : Fr h₀ env.locals s.heap m₀) (N : News h₀ env.locals s.heap nx₀) (hk : ks.map m₀ = (.bytes b₀ t₀ :: rv).map some) (hz : b₀.size ≤ 12) (hl : (l, listOf (List.toArray ws) nl) ∈ nx₀)
    (turn : ∀ (k : Nat) (v : Value) (u : Str → Option Value) (I : Addr) (oI : Obj) (b : Array UInt8) (t : Tok) (h' : Heap) (tk' : Nat), ws[k]? = some v → b.size ≤ 12 → (∀ p ∈ nx₀, p.1 ≠ I) → (l, listOf (List.toArray ws) nl) ∈ nx₀ →
      Fr h₀ env.locals h' (fun y => if y = x then some v else ov ks (.bytes b t :: rv) u y) → News h₀ env.locals h' ((I, oI) :: nx₀) →
      wpAny (model prog w) A (execs body env) (EndRow rv h₀ env.locals I ks oI (l, listOf (List.toArray ws) nl) nx₀ s Q) E { s with heap := h', toks := tk' })
    (done : ∀ (u : Str → Option Value) (b : Array UInt8) (t : Tok) (h' : Heap) (tk' : Nat), b.size ≤ 12 → Fr h₀ env.locals h' (ov ks (.bytes b t :: rv) u) → News h₀ env.locals h' nx₀ → Q .next { s with heap := h', toks := tk' })
    (hE : PassesOwn (model prog w) A env E) :
    wpAny (model prog w) A (pyIter (.ref l)) (fun it s₂ => codeAny (model prog w) A (.forLoop (.Name x px) it body [] env) (fun r s' => match r with | .ok f => Q f s' | .error e => cameBackBy (model prog w) A env E e s') s₂) E s :=
  listZ (Z := Array UInt8 × Tok) (R := fun z => z.1.size ≤ 12) (z₀ := (b₀, t₀)) (kv := fun z => .bytes z.1 z.2 :: rv) ks (fun _ nx => nx = nx₀) hx hp hh F N hz hk hl rfl
    (fun k v u I oI z h' tk' nx hv hz' hoff hJ hm F' N' => by
      subst hJ
      exact turn k v u I oI z.1 z.2 h' tk' hv hz' hoff hm F' N')
    (fun u z h' tk' nx hz' hJ _ F' N' => by
      subst hJ
      exact done u z.1 z.2 h' tk' hz' F' N') hE
end
theorem tabs_front {h₀ h : Heap} {L tl t0 t1 t2 : Addr} {ws0 ws1 ws2 : List Value} {n0 n1 n2 nt : Nat} {nx : List (Addr × Obj)} (N : News h₀ L h nx) (hl : (tl, listOf #[.ref t0, .ref t1, .ref t2] nt) ∈ nx) (h0 : (t0, listOf (List.toArray ws0) n0) ∈ nx) (h1 : (t1, listOf (List.toArray ws1) n1) ∈ nx) (h2 : (t2, listOf (List.toArray ws2) n2) ∈ nx) :
    News h₀ L h ((tl, listOf #[.ref t0, .ref t1, .ref t2] nt) :: (t2, listOf (List.toArray ws2) n2) :: (t1, listOf (List.toArray ws1) n1) :: (t0, listOf (List.toArray ws0) n0) :: nx) := fun p hp => by
  rcases List.mem_cons.mp hp with rfl | hp
  · exact N _ hl
  · rcases List.mem_cons.mp hp with rfl | hp
    · exact N _ h2
    · rcases List.mem_cons.mp hp with rfl | hp
      · exact N _ h1
      · rcases List.mem_cons.mp hp with rfl | hp
        · exact N _ h0
        · exact N p hp
theorem keep5 {h₀ h : Heap} {L l tl t0 t1 t2 : Addr} {ws ws0 ws1 ws2 : List Value} {n n0 n1 n2 nt : Nat} {nx : List (Addr × Obj)} (N : News h₀ L h nx) (h3 : (l, listOf (List.toArray ws) n) ∈ nx) (hl : (tl, listOf #[.ref t0, .ref t1, .ref t2] nt) ∈ nx) (h0 : (t0, listOf (List.toArray ws0) n0) ∈ nx) (h1 : (t1, listOf (List.toArray ws1) n1) ∈ nx) (h2 : (t2, listOf (List.toArray ws2) n2) ∈ nx) :
    News h₀ L h [(l, listOf (List.toArray ws) n), (tl, listOf #[.ref t0, .ref t1, .ref t2] nt), (t0, listOf (List.toArray ws0) n0), (t1, listOf (List.toArray ws1) n1), (t2, listOf (List.toArray ws2) n2)] :=
  keepN N _ (List.forall_mem_cons.mpr ⟨h3, List.forall_mem_cons.mpr ⟨hl, List.forall_mem_cons.mpr ⟨h0, List.forall_mem_cons.mpr ⟨h1, List.forall_mem_cons.mpr ⟨h2, List.forall_mem_nil _⟩⟩⟩⟩⟩)
theorem tabPair_len (c : Array UInt8) : (tabPair c).length = 256 := by
  unfold tabPair
  rw [List.length_set, List.length_set, tab64_len]
theorem row_in {ns : List Int} : ∀ v ∈ [102, 239] ++ List.map (fun (k' : Int) => k'.fmod 256) (List.take 3 ns), (0 : Int) ≤ v ∧ v < 256 := fun v hv => by
  rcases List.mem_append.mp hv with hv | hv
  · simp only [List.mem_cons, List.not_mem_nil, or_false] at hv
    omega
  · obtain ⟨x, _, rfl⟩ := List.mem_map.mp hv
    exact fmod_octet x
theorem row_len {ns : List Int} : ([102, 239] ++ List.map (fun (k' : Int) => k'.fmod 256) (List.take 3 ns)).length ≤ 5 := by
  simp only [List.length_append, List.length_map, List.length_take, List.length_cons, List.length_nil]
  omega
theorem ints_item {vs : List Value} {ns : List Int} (h : IntsAre vs ns) : ∀ {k : Nat} {v : Value}, vs[k]? = some v → ∃ d t, v = .int d t ∧ d ∈ ns := by
  induction h with
  | nil => intro k v hv; simp at hv
  | cons n t _ ih =>
    intro k v hv
    cases k with
    | zero => exact ⟨_, _, (Option.some.inj hv).symm, .head _⟩
    | succ k =>
      obtain ⟨d, t', e, hd⟩ := ih (k := k) hv
      exact ⟨d, t', e, .tail _ hd⟩
theorem deed_in {ns : List Int} : ∀ v ∈ List.map (fun (k' : Int) => k'.fmod 100000) ns ++ [1, 28, 0], (0 : Int) ≤ v ∧ v < 100000 := fun v hv => by
  rcases List.mem_append.mp hv with hv | hv
  · obtain ⟨x, _, rfl⟩ := List.mem_map.mp hv
    exact ⟨Int.fmod_nonneg_of_pos _ (by decide), Int.fmod_lt_of_pos _ (by decide)⟩
  · simp only [List.mem_cons, List.not_mem_nil, or_false] at hv
    omega
theorem law_holds : PySem.Challenge.rw_qh0110_01.Holds := by
  refine hd ?_
  k_go0
  all_goals (try k_fold)
  k_with_none
  k_with "exec If" => (with_reducible refine wpAny_If ?_)
  k_with "isTrue Compare" => ((with_reducible show wpAny _ _ (isTrue (Expr.Compare (Expr.Name _ _) [CmpOp.Eq] [Expr.Constant (Const.int _) _ _] _) _ _) _ _ _); k_dflt (refine' test_eq ?F ?v ?_ ?a ?b ?d; (case F => k_asm); (case a => rfl); (case b => rfl); (case d => decide); (case v => rfl)); (try dsimp only))
  k_with "isTrue Compare" => ((with_reducible show wpAny _ _ (isTrue (Expr.Compare (Expr.Name _ _) [CmpOp.NotEq] [Expr.Constant (Const.int _) _ _] _) _ _) _ _ _); k_dflt (refine' test_ne ?F ?v ?_ ?a ?b ?d; (case F => k_asm); (case a => rfl); (case b => rfl); (case d => decide); (case v => rfl)); (try dsimp only))
  k_with "isTrue Compare" => ((with_reducible show wpAny _ _ (isTrue (Expr.Compare (Expr.Name _ _) [CmpOp.Lt] [Expr.Constant (Const.int _) _ _] _) _ _) _ _ _); k_dflt (refine' test_lt ?F ?v ?_ ?a ?b ?d; (case F => k_asm); (case a => rfl); (case b => rfl); (case d => decide); (case v => rfl)); (try dsimp only))
  k_with "isTrue Compare" => ((with_reducible show wpAny _ _ (isTrue (Expr.Compare (Expr.Name _ _) [CmpOp.LtE] [Expr.Constant (Const.int _) _ _] _) _ _) _ _ _); k_dflt (refine' test_le ?F ?v ?_ ?a ?b ?d; (case F => k_asm); (case a => rfl); (case b => rfl); (case d => decide); (case v => rfl)); (try dsimp only))
  k_with "isTrue Compare" => ((with_reducible show wpAny _ _ (isTrue (Expr.Compare (Expr.Name _ _) [CmpOp.GtE] [Expr.Constant (Const.int _) _ _] _) _ _) _ _ _); k_dflt (refine' test_ge ?F ?v ?_ ?a ?b ?d; (case F => k_asm); (case a => rfl); (case b => rfl); (case d => decide); (case v => rfl)); (try dsimp only))
  k_with "Thn" => first | (refine hK9 _ _ ?_; (try clear hK9); (try dsimp only)) | (refine hK9 _ ?_; (try clear hK9); (try dsimp only))
  k_with "Rtn" => (refine hR9 _ _ ?_)
  k_with "Trn" => (refine hN9 _ _ ?_; (try dsimp only))
  k_with "ThB" => refine thb_ite ?_
  k_with "ThB true" => (refine hT9 _ ?_; (try clear hT9 hF9); (try dsimp only [List.cons_append, List.nil_append, List.append_nil]))
  k_with "ThB false" => (refine hF9 _ ?_; (try clear hT9 hF9); (try dsimp only [List.cons_append, List.nil_append, List.append_nil]))
  k_with "execs cons If" => (refine flat_if ?_; intro K9 hT9 hF9)
  k_with "execs cons If" => k_dflt ((first | (refine' if_pb (lit := false) (n := 6) ?F ?c ?_ ?_; (case F => k_asm); (case c => exact rfl)) | (refine' if_p (lit := false) (n := 6) ?F ?c ?_ ?_; (case F => k_asm); (case c => exact rfl))); (all_goals (intro k9 hb9; first | (exfalso; omega) | dsimp only [List.cons_append, List.nil_append, List.append_nil] | skip)))
  k_with "execs cons If" => k_dflt ((first | (refine' if_T (lit := true) (n := 6) ?F ?c ?_; (case F => k_asm); (case c => exact rfl)) | (refine' if_F (lit := true) (n := 6) ?F ?c ?_; (case F => k_asm); (case c => exact rfl))); intro k9; (try dsimp only [List.cons_append, List.nil_append, List.append_nil]))
  k_with "execs cons If" => k_dflt (refine' if_p (lit := true) (n := 6) ?F ?c ?_ ?_; (case F => k_asm); (case c => exact rfl); (all_goals (intro k9 hb9; first | (exfalso; omega) | dsimp only [List.cons_append, List.nil_append, List.append_nil] | skip)))
  k_with "execs cons Assign" => ((fail_if_success (with_reducible show wpAny _ _ (execs (Stmt.Assign _ (Expr.ListComp _ _ _ _) _ :: _) _) _ _ _)); refine' flat_asg ?_ ?s; (case s => exact rfl); intro K9 hK9)
  k_with "execs cons Assign" => k_dflt (refine' asg_ev (n := 6) ?F ?N ?L ?x ?s ?e ?_; (case F => k_asm); (case N => k_asm); (case L => exact rfl); (case x => exact rfl); (case s => exact rfl); (case e => exact rfl); intro t9 k9 h' m9 F' N'; (try dsimp only); (try k_sweep))
  k_with "storeName" => k_dflt (refine' store_ev ?F ?N ?L ?x ?_; (case F => k_asm); (case N => k_asm); (case L => exact rfl); (case x => exact rfl); intro h' k9 m9 F' N'; (try dsimp only); (try k_sweep))
  k_with "execs cons Return" => (refine flat_ret ?_; intro K9 hK9)
  k_with "execs cons Return" => k_dflt (refine' ret_ev (n := 6) ?F ?e ?_; (case F => k_asm); (case e => exact rfl); intro t9 k9; (try dsimp only))
  k_with "execs cons Expr" => (refine' flat_expr ?_ ?i ?s; (case i => exact rfl); (case s => exact rfl); intro K9 hK9)
  k_with "execs cons Raise" => refine flat_raise ?_
  k_with "execs cons Continue" => refine flat_cont ?_
  k_with "spliced" => plain_pass; k_dflt (refine' args_ev (n := 6) ?F ?e ?_; (case F => k_asm); (case e => exact rfl); intro t9 k9; (try dsimp only [vals, List.cons_append, List.nil_append]))
  k_with "eval Call Name" => plain_pass; k_dflt (refine' callN_ev (n := 6) ?F ?X ?T ?f ?v ?w ?g ?e ?_ ?a ?b ?d; (case F => k_asm); (case e => exact rfl); (case b => exact rfl); (case X => k_asm); (case T => k_asm); (case a => exact rfl); (case f => k_is); (case v => boot_fast); (case w => exact rfl); (case g => decide); (case d => decide); intro t9 k9; (try dsimp only [vals]))
  k_with "eval Call Name" => plain_pass; k_dflt (refine' call_ev (n := 6) ?F ?X ?T ?f ?k ?e ?_ ?a ?b ?d; (case F => k_asm); (case e => exact rfl); (case b => exact rfl); (case X => k_asm); (case T => k_asm); (case a => exact rfl); (case f => k_is); (case k => k_is); (case d => decide); intro t9 k9; (try dsimp only [vals]))
  k_with "call ref" => k_dflt ((show wpAny _ _ (call (Value.ref 226) [Value.none]) _ _ _); (refine' law_tableN _ _ _ _ _ _ _ _ _ _ _ _ _ _ _ _ _ _ ?k1 ?k2 ?k3 ?k4 ?k5 ?kK ?kd ?ku ?_; (case k1 => k_asm); (case k2 => k_asm); (case k3 => k_asm); (case k4 => k_asm); (case k5 => k_asm); (case kK => first | exact rfl | assumption); (case kd => first | (dsimp only [Around.deeper]; omega) | ktr_room); (case ku => first | (dsimp only [Around.deeper]; omega) | ktr_units); intro D9 us9 c9 h9 k9 F9 N9 l9 hI9; (try dsimp only); (try k_fold)))
  k_with "call ref" => k_dflt ((show wpAny _ _ (call (Value.ref 226) [Value.bytes _ _]) _ _ _); (refine' law_tableP _ _ (by first | assumption | rfl) _ _ _ _ _ _ _ _ _ _ _ _ _ _ _ _ _ _ ?k1 ?k2 ?k3 ?k4 ?k5 ?kK ?kd ?ku ?_; (case k1 => k_asm); (case k2 => k_asm); (case k3 => k_asm); (case k4 => k_asm); (case k5 => k_asm); (case kK => first | exact rfl | assumption); (case kd => first | (dsimp only [Around.deeper]; omega) | ktr_room); (case ku => first | (dsimp only [Around.deeper]; omega) | ktr_units); intro D9 us9 c9 h9 k9 F9 N9 l9 hI9; (try dsimp only); (try k_fold)))
  k_with "eval ListComp" => (k_here; k_dflt (refine LCg.ListComp_U (F₀ := by k_asm) (by with_unfolding_all rfl) (by decide) (by rfl) (by decide) (by rfl) ?_))
  k_with "exec Assign cons ListComp" => (k_here; k_dflt (refine LCg.Assign_ListComp_U (F₀ := by k_asm) (by rfl) (by with_unfolding_all rfl) (by with_unfolding_all rfl) (by decide) (by rfl) (by decide) (by rfl) (by rfl) (by rfl) ?_))
  k_with "CompSrc" => (k_here; k_dflt (refine LCg.CompSrc.ledger (by rfl) (by k_asm) (by k_asm) (by k_mem) (by rw [sizeLine_eq, List.size_toArray]; (try simp only [List.length_append, List.length_cons, List.length_nil]); omega) ?_; intro g'; (refine' kcf_list _ (by assumption) (fun k' t' I' oI' C' oC' D' m' ys' h' tk' E' hk' hC' hx' F' N' off' ne' hMark' => ?_) ?_); (all_goals (try (simp only [LCg.Off3, and_true] at off'))); kcf_last))
  k_with "exec For Name BinOp cons nil" => k_dflt (refine wpAny_For ?_)
  k_with "pyIter ref" => refine stop ?_
  k_with "call type:bytes" => refine stop ?_
  k_with "subscriptTail" => (k_dflt ((show wpAny _ _ (subscriptTail _ _ (Value.ref _) (Value.int _ _)) _ _ _); refine stop ?_))
  k_with "EndZ" => refine stop ?_
  k_with "EndRow" => refine stop ?_
  k_with "call ref" => k_dflt ((show wpAny _ _ (call (Value.ref 247) [Value.bytes _ _, Value.bytes _ _, Value.ref _]) _ _ _); (refine' looked _ _ _ _ _ _ _ _ _ _ _ _ _ _ _ _ _ _ (by assumption) (by assumption) ?w0 ?w1 ?w2 tab64_len (tabPair_len _) (tabPair_len _) (look_ok _ _ (by assumption)) _ _ _ _ _ _ _ _ _ _ _ _ _ _ _ _ ?k1 ?k2 ?k3 (tabs_front ?k4 ?m1 ?m2 ?m3 ?m4) ?k5 ?k6 ?k7 ?kK ?kd ?ku ?_; (case k1 => k_asm); (case k2 => k_asm); (case k3 => k_asm); (case k4 => k_asm); (case m1 => k_mem); (case m2 => k_mem); (case m3 => k_mem); (case m4 => k_mem); (case w0 => assumption); (case w1 => assumption); (case w2 => assumption); (case k5 => k_asm); (case k6 => k_asm); (case k7 => k_asm); (case kK => first | exact rfl | assumption); (case kd => first | (dsimp only [Around.deeper]; omega) | ktr_room); (case ku => first | (dsimp only [Around.deeper]; omega) | ktr_units)); intro D9 vs9 n9 h9 tk9 F9 N9 off9 hv9; (try dsimp only); (try k_fold))
  k_with "call ref" => k_dflt ((show wpAny _ _ (call (Value.ref 252) [Value.int _ _, Value.bytes _ _, Value.bytes _ _, Value.ref _]) _ _ _); (refine' law_done _ _ _ _ _ _ _ _ _ ?d0 ?d1 (by assumption) (by assumption) (by assumption) _ _ _ _ _ _ _ _ _ _ _ _ _ _ _ _ _ _ ?k1 ?k2 ?k3 ?k4 ?k5 ?kK ?kd ?ku ?_; (case d0 => omega); (case d1 => omega); (case k1 => k_asm); (case k2 => k_asm); (case k3 => k_asm); (case k4 => k_asm); (case k5 => k_asm); (case kK => first | exact rfl | assumption); (case kd => first | (dsimp only [Around.deeper]; omega) | ktr_room); (case ku => first | (dsimp only [Around.deeper]; omega) | ktr_units)); intro b9 t9 h9 tk9 hb9 F9 N9; (try dsimp only); (try k_fold))
  k_steps
  refine Stop.go (bytes_ofL (us := [_, _]) (by k_asm) (by k_asm) (.head _) rfl (.cons _ _ (.cons _ _ .nil)) (fun v hv => by
    rcases List.mem_cons.mp hv with rfl | hv
    · exact fmod_octet _
    · rw [List.mem_singleton.mp hv]; exact fmod_octet _) (by simp only [List.length_cons, List.length_nil]; decide) ?_)
  intro h8 t8 k8 F8 N8
  k_steps
  refine' Stop.go (pick_pair (by k_asm) (by k_mem) (fun v hv => by
    simp only [List.mem_cons, List.not_mem_nil, or_false] at hv
    rcases hv with rfl | rfl | rfl | rfl <;> exact ⟨_, _, rfl, rfl⟩) ?h0 ?h1 (by simp only [List.length_cons, List.length_nil]; decide) ?_ (by with_unfolding_all rfl))
  case h0 => exact Int.fmod_nonneg_of_pos _ (by decide)
  case h1 => exact Int.fmod_lt_of_pos _ (by decide)
  intro c t hc
  (rename News _ _ _ _ => kN)
  replace kN := keepN kN [(_, LCg.lst _)] (List.forall_mem_singleton.mpr (by k_mem))
  try k_fold
  k_steps
  refine' Stop.go (bytes_ofL (by k_asm) (by k_asm) (.head _) rfl (by assumption) row_in ?hl ?_)
  case hl => exact Nat.le_trans row_len (by decide)
  intro h8 t8 k8 F8 N8
  k_steps
  refine' Stop.go (listRow [Str.ofString "row", Str.ofString "pair", Str.ofString "tables"] (by rfl) (by rfl) rfl ?lF (keep5 ?lN ?l0 ?l1 ?l2 ?l3 ?l4) (rv := [_, _]) ?lk ?hz (.head _) ?turn ?fin (by passes_own))
  case lF => k_asm
  case lk => rfl
  case lN => k_asm
  case l0 => k_mem
  case l1 => k_mem
  case l2 => k_mem
  case l3 => k_mem
  case l4 => k_mem
  case hz => rw [byteArr_size]; exact Nat.le_trans row_len (by decide)
  case turn =>
    intro k v u I oI b tb h' tk' hv hb hoff hmem F1 N1
    obtain ⟨deed, td, rfl, hd⟩ := ints_item (by assumption) hv
    have hd2 := deed_in deed hd
    simp only [ov] at F1
    try k_fold
    k_steps
    exact Stop.go (EndRow.next (by assumption) hoff hmem (by k_asm) (by k_asm) (fun p hp => hp) (by rfl))
  case fin =>
    intro u b tb h' tk' hb F1 N1
    simp only [ov] at F1
    try k_fold
    k_steps
end
end

end Mine
theorem PySem.Challenge.cw_qh0110_01_holds : PySem.Challenge.rw_qh0110_01.Holds :=
  Mine.law_holds
