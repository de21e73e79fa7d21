import PyProof.Rows.All
import Wide.All
import OpenK.AllK
import Wide.FinOn
import PySem.Challenge.RW_aj5008_01
set_option Elab.async false

section
open PySem PySem.W PyProof.Rows
set_option maxRecDepth 100000
set_option maxHeartbeats 8000000
open_top Mine.hd for PySem.Challenge.rw_aj5008_01

end

section
open PySem PySem.Calls
set_option maxRecDepth 100000
namespace Mine

abbrev D := PyData

def Ext (h h' : Heap) : Prop := ∀ b o, h.get? b = some o → h'.get? b = some o
theorem Ext.refl (h : Heap) : Ext h h := fun _ _ e => e
theorem Ext.trans {a b c : Heap} (x : Ext a b) (y : Ext b c) : Ext a c := fun q o e => y q o (x q o e)
theorem Ext.push (h : Heap) (o : Obj) : Ext h (h.push o) := fun _ _ e => Heap.get?_push_of_some _ e

def SeqExt (h h' : Heap) : Prop := ∀ b o vs n, h.get? b = some o → o.data = .seq vs n → h'.get? b = some o
theorem Ext.seq {h h' : Heap} (x : Ext h h') : SeqExt h h' := fun b o _ _ e _ => x b o e

mutual
inductive Rp (h : Heap) : Value → D → Prop
  | none : Rp h .none .none
  | bool (b : Bool) : Rp h (.bool b) (.bool b)
  | int (i : Int) (t : Tok) : Rp h (.int i t) (.int i)
  | str (x : Str) (t : Tok) : Rp h (.str x t) (.str x)
  | tup {a : Addr} {o : Obj} {vs : Array Value} {n : Nat} {xs : List D} : h.get? a = some o → o.cls = .type "tuple" → o.data = .seq vs n → Rps h vs.toList xs → Rp h (.ref a) (.tuple xs)
  | lst {a : Addr} {o : Obj} {vs : Array Value} {n : Nat} {xs : List D} : h.get? a = some o → o.cls = .type "list" → o.data = .seq vs n → Rps h vs.toList xs → Rp h (.ref a) (.list xs)
inductive Rps (h : Heap) : List Value → List D → Prop
  | nil : Rps h [] []
  | cons {v : Value} {vs : List Value} {d : D} {ds : List D} : Rp h v d → Rps h vs ds → Rps h (v :: vs) (d :: ds)
end
mutual
theorem Rp.seq {h h' : Heap} (k : SeqExt h h') : ∀ {v : Value} {d : D}, Rp h v d → Rp h' v d
  | _, _, .none => .none
  | _, _, .bool b => .bool b
  | _, _, .int i t => .int i t
  | _, _, .str x t => .str x t
  | _, _, .tup e c d r => .tup (k _ _ _ _ e d) c d (Rps.seq k r)
  | _, _, .lst e c d r => .lst (k _ _ _ _ e d) c d (Rps.seq k r)
theorem Rps.seq {h h' : Heap} (k : SeqExt h h') : ∀ {v : List Value} {d : List D}, Rps h v d → Rps h' v d
  | _, _, .nil => .nil
  | _, _, .cons a b => .cons (Rp.seq k a) (Rps.seq k b)
end
mutual
theorem Rp.reads {h : Heap} : ∀ {v : Value} {d : D}, Rp h v d → ∃ as, Reads h v d as
  | _, _, .none => ⟨_, .none⟩
  | _, _, .bool b => ⟨_, .bool b⟩
  | _, _, .int i t => ⟨_, .int i t⟩
  | _, _, .str x t => ⟨_, .str x t⟩
  | _, _, .tup e c d r => let ⟨as, q⟩ := Rps.reads r; ⟨as, .tuple e c d q⟩
  | _, _, .lst e c d r => let ⟨_, q⟩ := Rps.reads r; ⟨_, .list e c d q⟩
theorem Rps.reads {h : Heap} : ∀ {v : List Value} {d : List D}, Rps h v d → ∃ as, ReadsAll h v d as
  | _, _, .nil => ⟨_, .nil⟩
  | _, _, .cons a b => let ⟨_, q⟩ := Rp.reads a; let ⟨_, p⟩ := Rps.reads b; ⟨_, .cons q p⟩
end
theorem Rp.ext {h h' : Heap} (k : Ext h h') {v : Value} {d : D} (r : Rp h v d) : Rp h' v d := r.seq k.seq
theorem Rps.ext {h h' : Heap} (k : Ext h h') {v : List Value} {d : List D} (r : Rps h v d) : Rps h' v d := r.seq k.seq
theorem Rps.length {h : Heap} : ∀ {v : List Value} {d : List D}, Rps h v d → v.length = d.length
  | _, _, .nil => rfl
  | _, _, .cons _ b => congrArg (· + 1) (Rps.length b)
theorem Rps.get {h : Heap} : ∀ {v : List Value} {d : List D} {i : Nat} {x : D}, Rps h v d → d[i]? = some x → ∃ y, v[i]? = some y ∧ Rp h y x
  | _, _, 0, _, .cons a _, e => ⟨_, rfl, by cases e; exact a⟩
  | _, _, i + 1, _, .cons _ b, e => Rps.get (i := i) b e
  | _, _, _, _, .nil, e => by simp at e

/-- the room that a call needs -/
structure Room (n : Nat) (A : Around) : Prop where
  hh : A.handled = none
  depth : A.depth + n < recursionLimit
  units : A.units + 8 * n + 100 < cLine
theorem Room.less {n m : Nat} {A : Around} (r : Room n A) (h : m ≤ n) : Room m A :=
  ⟨r.hh, by have := r.depth; omega, by have := r.units; omega⟩
theorem Room.deeper {n : Nat} {A : Around} (r : Room (n + 1) A) (env : Env) : Room n (A.deeper env) :=
  ⟨r.hh, by have := r.depth; show A.depth + 1 + n < _; omega, by have := r.units; show A.units + 3 + 8 * n + 100 < _; omega⟩

/-- what stands behind an evaluation -/
def Post (s : Shared) (P : D → Prop) : Value → Shared → Prop := fun v s' =>
  ∃ (h : Heap) (tk : Nat) (d : D), s' = { s with heap := h, toks := tk } ∧ Ext s.heap h ∧ Rp h v d ∧ P d
abbrev F0 : Value → Shared → Prop := fun _ _ => False
theorem Post.mk {s : Shared} {P : D → Prop} {v : Value} {h : Heap} {tk : Nat} {d : D} (e : Ext s.heap h) (r : Rp h v d) (p : P d) : Post s P v { s with heap := h, toks := tk } := ⟨h, tk, d, rfl, e, r, p⟩
theorem Post.int {s : Shared} {P : D → Prop} {i : Int} {t : Tok} {tk : Nat} (p : P (.int i)) : Post s P (.int i t) { s with toks := tk } := ⟨s.heap, tk, _, rfl, Ext.refl _, .int _ _, p⟩
theorem Post.bool {s : Shared} {P : D → Prop} {b : Bool} (p : P (.bool b)) : Post s P (.bool b) s := ⟨s.heap, s.toks, _, rfl, Ext.refl _, .bool _, p⟩
theorem Post.here {s : Shared} {P : D → Prop} {v : Value} {d : D} (r : Rp s.heap v d) (p : P d) : Post s P v s := ⟨s.heap, s.toks, _, rfl, Ext.refl _, r, p⟩
/-- from a later state back -/
theorem Post.back {s : Shared} {h : Heap} {tk : Nat} {P : D → Prop} {v : Value} {s' : Shared} (e : Ext s.heap h) (q : Post { s with heap := h, toks := tk } P v s') : Post s P v s' := by
  obtain ⟨h', tk', d, rfl, e', r, p⟩ := q
  exact ⟨h', tk', d, rfl, e.trans e', r, p⟩

section
variable {M : Model} {A : Around} {s : Shared} {α : Type}
theorem wpF {E : Value → Shared → Prop} {t : Sem α} {Q : α → Shared → Prop} (h : wpAny M A t Q F0 s) : wpAny M A t Q E s := wpAny_mono h (fun _ _ q => q) fun _ _ x => x.elim
end

/-- a number of at most n binary digits -/
def Bits (x : Int) (n : Nat) : Prop := x.natAbs < 2 ^ n
theorem Bits.intBits {x : Int} {n : Nat} (h : Bits x n) : Builtin.Int.intBits x ≤ n := by
  unfold Builtin.Int.intBits
  split
  · exact Nat.zero_le _
  · rename_i h0
    have h0' : x.natAbs ≠ 0 := by
      intro e; apply h0; simpa using e
    have := (Nat.log2_lt h0').mpr h
    omega
theorem Bits.log2 {x : Int} {n : Nat} (h : Bits x n) (hn : n ≤ 9000) (h1 : 0 < n) : x.natAbs.log2 < 9000 := by
  by_cases h0 : x.natAbs = 0
  · rw [h0]; decide
  · have := (Nat.log2_lt h0).mpr h
    omega
theorem mulOk {x y : Int} {n m : Nat} (h : Bits x n) (k : Bits y m) (hs : n + m ≤ 2 ^ 27) : IntMulOk x y := by
  unfold IntMulOk
  intro e
  simp only [Bool.and_eq_true] at e
  have h2 : (Builtin.Int.intBits x + Builtin.Int.intBits y : Int) > 134217728 := of_decide_eq_true e.2
  have := h.intBits
  have := k.intBits
  omega

/-- the operators upon numbers -/
def wpBin (op : Operator) (a b : D) (P : D → Prop) : Prop :=
  match op, a, b with
  | .Add, .int x, .int y => P (.int (x + y))
  | .Sub, .int x, .int y => P (.int (x - y))
  | .Mult, .int x, .int y => IntMulOk x y ∧ P (.int (x * y))
  | .FloorDiv, .int x, .int y => (y ≠ 0 ∧ y.natAbs.log2 < 9000) ∧ P (.int (x.fdiv y))
  | .Mod, .int x, .int y => y ≠ 0 ∧ P (.int (x.fmod y))
  | .LShift, .int x, .int y => (0 ≤ y ∧ (Builtin.Int.intBits x : Int) + y ≤ 2 ^ 27) ∧ P (.int (x * 2 ^ y.toNat))
  | .RShift, .int x, .int y => 0 ≤ y ∧ P (.int (x.fdiv (2 ^ y.toNat)))
  | .BitAnd, .int x, .int y => P (.int (Builtin.bitAnd x y))
  | .BitXor, .int x, .int y => P (.int (Builtin.bitXor x y))
  | .Pow, .int x, .int y => (0 ≤ y ∧ (Builtin.Int.intBits x : Int) * y ≤ 2 ^ 27) ∧ P (.int (x ^ y.toNat))
  | _, _, _ => False

section
variable {prog : Program} {w : World} {A : Around} {s : Shared} {va vb : Value} {a b : D} {P : D → Prop}
theorem wpBin_sound {op : Operator} (ra : Rp s.heap va a) (rb : Rp s.heap vb b) (h : wpBin op a b P) : wpAny (model prog w) A (binaryOp op va vb) (Post s P) F0 s := by
  cases ra <;> cases rb <;> cases op <;> try exact h.elim
  · exact wpAny_add_int (Post.int h)
  · exact PyProof.Rows.sub_int (Post.int h)
  · exact PyProof.Rows.mul_int (Post.int h.2) h.1
  · exact PyProof.Rows.mod_int h.1 (Post.int h.2)
  · exact PyProof.Rows.pow_int h.1.1 h.1.2 (Post.int h.2)
  · exact PyProof.Rows.lshift_int h.1.1 h.1.2 (Post.int h.2)
  · exact PyProof.Rows.rshift_int h.1 (Post.int h.2)
  · exact PyProof.Rows.xor_int (Post.int h)
  · exact PyProof.Rows.and_int (Post.int h)
  · exact PyProof.Rows.floordiv_int h.1.1 (Post.int h.2) (Or.inl (PyProof.noPylong_of_log2 h.1.2))
theorem wpIBin_sound {op : Operator} (ra : Rp s.heap va a) (rb : Rp s.heap vb b) (h : wpBin op a b P) : wpAny (model prog w) A (inplaceOp op va vb) (Post s P) F0 s := by
  cases ra <;> cases rb <;> cases op <;> try exact h.elim
  · exact wpAny_iadd_int (Post.int h)
  · exact PyProof.Rows.isub_int (Post.int h)
  · exact PyProof.Rows.imul_int (Post.int h.2) h.1
  · exact PyProof.Rows.imod_int h.1 (Post.int h.2)
  · exact PyProof.Rows.ipow_int h.1.1 h.1.2 (Post.int h.2)
  · exact PyProof.Rows.ilshift_int h.1.1 h.1.2 (Post.int h.2)
  · exact PyProof.Rows.irshift_int h.1 (Post.int h.2)
  · exact PyProof.Rows.ixor_int (Post.int h)
  · exact PyProof.Rows.iand_int (Post.int h)
  · exact PyProof.Rows.ifloordiv_int h.1.1 (Post.int h.2) (Or.inl (PyProof.noPylong_of_log2 h.1.2))
end
end Mine

end

section
open PySem PySem.Calls
set_option maxRecDepth 100000
namespace Mine

inductive CSrc where
  | range (n : Nat)
  | text (x : Str)

inductive ME where
  | loc (i : Nat)
  | gint (x : Str) (i : Int)
  | gstr (x : Str) (y : Str)
  | gtup (x : Str) (l : List Int)
  | int (i : Int)
  | str (y : Str)
  | bool (b : Bool)
  | bin (op : Operator) (l r : ME)
  | neg (e : ME)
  | not (e : ME)
  | and (l r : ME)
  | or (l r : ME)
  | cmp (op : CmpOp) (l r : ME)
  | ife (c t e : ME)
  | tup (es : List ME)
  | lst (es : List ME)
  | item (e i : ME)
  | shd (e : ME)
  | call (f : Str) (es : List ME)
  | bl (e : ME)
  | isInt (e : ME)
  | toInt (e : ME)
  | dvm (a b : ME)
  | mx (a b : ME)
  | len (e : ME)
  | all (e : ME)
  | comp (src : CSrc) (x : Str) (elt : ME)
  | bad

inductive MS where
  | asg (i : Nat) (e : ME)
  | asgT (l : List Nat) (e : ME)
  | asgW (l : List Nat) (es : List ME)
  | aug (i : Nat) (op : Operator) (e : ME)
  | ite (c : ME) (a b : List MS)
  | whl (c : ME) (a : List MS)
  | forS (i : Nat) (x : Str) (a : List MS)
  | ret (e : ME)
  | asrt (c : ME)
  | bad

abbrev Rho := List (Option D)

def eq4 : List D → List D → Option Bool
  | [.int a, .int b, .int c, .int d], [.int a', .int b', .int c', .int d'] => some (decide (a = a' ∧ b = b' ∧ c = c' ∧ d = d'))
  | _, _ => none

def cmpD (op : CmpOp) (a b : D) : Option Bool :=
  match op, a, b with
  | .Eq, .int x, .int y => some (decide (x = y))
  | .NotEq, .int x, .int y => some (!decide (x = y))
  | .Lt, .int x, .int y => some (decide (x < y))
  | .LtE, .int x, .int y => some (decide (x ≤ y))
  | .Gt, .int x, .int y => some (decide (y < x))
  | .GtE, .int x, .int y => some (decide (y ≤ x))
  | .Eq, .str x, .str y => some (x == y)
  | .Eq, .tuple xs, .tuple ys => eq4 xs ys
  | .NotEq, .tuple xs, .tuple ys => (eq4 xs ys).map (!·)
  | .In, .int x, .list [.int y, .int z] => some (decide (y = x ∨ z = x))
  | .In, .tuple xs, .list [.tuple ys, .tuple zs] => match eq4 ys xs, eq4 zs xs with
    | some p, some q => some (p || q)
    | _, _ => none
  | .In, .str y, .str x => some (!(Builtin.Str.occurrences x y 0 x.length 1).isEmpty)
  | _, _, _ => none

def truthD : D → Option Bool
  | .bool b => some b
  | .int i => some (!decide (i = 0))
  | _ => none
def wpTr (d : D) (P : Bool → Prop) : Prop := match truthD d with
  | some b => P b
  | none => False

def itemD : D → D → Option D
  | .tuple xs, .int k => if 0 ≤ k ∧ k < 100 then xs[k.toNat]? else none
  | .list xs, .int k => if 0 ≤ k ∧ k < 100 then xs[k.toNat]? else none
  | _, _ => none

def chF : Str := ⟨#[102]⟩
def chC : Str := ⟨#[99]⟩
def chD : Str := ⟨#[100]⟩
def chU : Str := ⟨#[117]⟩
def chN : Str := ⟨#[110]⟩
def shdD : D → Option D
  | .str x => if x = chF then some (.tuple [.int 1, .int 0]) else if x = chC then some (.tuple [.int 0, .int 1]) else if x = chD then some (.tuple [.int 1, .int 1]) else if x = chU then some (.tuple [.int 0, .int 0]) else none
  | _ => none

def allD : List D → Option Bool
  | [] => some true
  | .bool b :: r => (allD r).map (b && ·)
  | _ => none

def optP {α : Type} (o : Option α) (P : α → Prop) : Prop := match o with
  | some a => P a
  | none => False

def srcD : CSrc → List D
  | .range n => (List.range n).map fun i : Nat => PyData.int (Int.ofNat i)
  | .text x => x.cps.toList.map fun c => .str ⟨#[c]⟩

mutual
def noLst : D → Bool
  | .list _ => false
  | .dict _ => false
  | .tuple l => noLsts l
  | _ => true
def noLsts : List D → Bool
  | [] => true
  | d :: r => noLst d && noLsts r
end

def wpEach (f : D → (D → Prop) → Prop) : List D → (List D → Prop) → Prop
  | [], k => k []
  | d :: ds, k => f d fun r => noLst r = true ∧ wpEach f ds fun rs => k (r :: rs)

section
variable (ok : Str → List D → D → Prop)
mutual
def wpE (ρ : Rho) : ME → (D → Prop) → Prop
  | .loc i, P => match ρ[i]? with
    | some (some d) => P d
    | _ => False
  | .gint _ i, P => P (.int i)
  | .gstr _ y, P => P (.str y)
  | .gtup _ l, P => P (.tuple (l.map .int))
  | .int i, P => P (.int i)
  | .str y, P => P (.str y)
  | .bool b, P => P (.bool b)
  | .bin op l r, P => wpE ρ l fun a => wpE ρ r fun b => wpBin op a b P
  | .neg e, P => wpE ρ e fun a => match a with
    | .int x => P (.int (-x))
    | _ => False
  | .not e, P => wpE ρ e fun a => wpTr a fun b => P (.bool (!b))
  | .and l r, P => wpE ρ l fun a => wpTr a fun b => (b = true → wpE ρ r P) ∧ (b = false → P a)
  | .or l r, P => wpE ρ l fun a => wpTr a fun b => (b = true → P a) ∧ (b = false → wpE ρ r P)
  | .cmp op l r, P => wpE ρ l fun a => wpE ρ r fun b => optP (cmpD op a b) fun c => P (.bool c)
  | .ife c t e, P => wpE ρ c fun a => wpTr a fun b => (b = true → wpE ρ t P) ∧ (b = false → wpE ρ e P)
  | .tup es, P => wpEs ρ es fun ds => P (.tuple ds)
  | .lst es, P => wpEs ρ es fun ds => P (.list ds)
  | .item e i, P => wpE ρ e fun a => wpE ρ i fun b => optP (itemD a b) P
  | .shd e, P => wpE ρ e fun a => optP (shdD a) P
  | .call f es, P => wpEs ρ es fun ds => ∃ d, ok f ds d ∧ P d
  | .bl e, P => wpE ρ e fun a => match a with
    | .int x => P (.int (Builtin.Int.intBits x))
    | _ => False
  | .isInt e, P => wpE ρ e fun a => match a with
    | .int _ => P (.bool true)
    | _ => False
  | .toInt e, P => wpE ρ e fun a => match a with
    | .int x => P (.int x)
    | _ => False
  | .dvm a b, P => wpE ρ a fun a => wpE ρ b fun b => match a, b with
    | .int x, .int y => (y ≠ 0 ∧ y.natAbs.log2 < 9000) ∧ P (.tuple [.int (x.fdiv y), .int (x.fmod y)])
    | _, _ => False
  | .mx a b, P => wpE ρ a fun a => wpE ρ b fun b => match a, b with
    | .int x, .int y => P (.int (if y > x then y else x))
    | _, _ => False
  | .len e, P => wpE ρ e fun a => match a with
    | .list l => l.length < 100 ∧ P (.int l.length)
    | _ => False
  | .all e, P => wpE ρ e fun a => match a with
    | .list l => optP (allD l) fun b => P (.bool b)
    | _ => False
  | .comp src _ elt, P => wpEach (fun d k => wpE (some d :: ρ) elt k) (srcD src) fun ds => P (.list ds)
  | .bad, _ => False
def wpEs (ρ : Rho) : List ME → (List D → Prop) → Prop
  | [], P => P []
  | e :: es, P => wpE ρ e fun d => wpEs ρ es fun ds => P (d :: ds)
end

def wpT (ρ : Rho) (e : ME) (P : Bool → Prop) : Prop := wpE ok ρ e fun d => wpTr d P

def setAll (ρ : Rho) : List Nat → List D → Option Rho
  | [], [] => some ρ
  | i :: is, d :: ds => setAll (ρ.set i (some d)) is ds
  | _, _ => none

def wpFor (f : Rho → (Rho → Prop) → Prop) (i : Nat) : List D → Rho → (Rho → Prop) → Prop
  | [], ρ, k => k ρ
  | d :: ds, ρ, k => f (ρ.set i (some d)) fun ρ' => wpFor f i ds ρ' k

mutual
def wpS (ρ : Rho) : MS → (Rho → Prop) → (D → Prop) → Prop
  | .asg i e, N, _ => wpE ok ρ e fun d => N (ρ.set i (some d))
  | .asgT l e, N, _ => wpE ok ρ e fun d => match d with
    | .tuple ds => optP (setAll ρ l ds) N
    | .list ds => optP (setAll ρ l ds) N
    | _ => False
  | .asgW l es, N, _ => wpEs ok ρ es fun ds => optP (setAll ρ l.reverse ds.reverse) N
  | .aug i op e, N, _ => match ρ[i]? with
    | some (some a) => wpE ok ρ e fun b => wpBin op a b fun d => N (ρ.set i (some d))
    | _ => False
  | .ite c a b, N, R => wpT ok ρ c fun t => (t = true → wpSs ρ a N R) ∧ (t = false → wpSs ρ b N R)
  | .whl c a, N, R => ∃ I : Nat → Rho → Prop, (∃ n, I n ρ) ∧ ∀ n ρ', I n ρ' → wpT ok ρ' c fun t => (t = true → wpSs ρ' a (fun ρ'' => ∃ m, m < n ∧ I m ρ'') R) ∧ (t = false → N ρ')
  | .forS i x a, N, R => wpFor (fun ρ' k => wpSs ρ' a k R) i (srcD (.text x)) ρ N
  | .ret e, _, R => wpE ok ρ e R
  | .asrt c, N, _ => wpT ok ρ c fun t => t = true ∧ N ρ
  | .bad, _, _ => False
def wpSs (ρ : Rho) : List MS → (Rho → Prop) → (D → Prop) → Prop
  | [], N, _ => N ρ
  | s :: r, N, R => wpS ρ s (fun ρ' => wpSs ρ' r N R) R
end
end
end Mine

end

section
open PySem PySem.Calls
set_option maxRecDepth 100000
namespace Mine
open PySem.W (Frag nsIn mg_of mg_none_of)

structure Wd where
  prog : Program
  w : World
  K : Frag
  p : Program
  loose : List Str
  mean : ExcName → Option Value
  mg : Str → Option Value
  mb : Str → Option Value

structure Gd (W : Wd) (h : Heap) : Prop where
  X : W.K.In h
  T : PyProof.Rows.Top W.p W.loose W.mean W.mg W.mb h
theorem Gd.ext {W : Wd} {h h' : Heap} (g : Gd W h) (k : Ext h h') : Gd W h' := ⟨g.X.keeps k, g.T.keeps k⟩

def Ok (W : Wd) (n : Nat) (f : Str) (args : List D) (d : D) : Prop :=
  ∃ (fa : Addr) (o : Obj) (fd : FuncData), nsIn W.K mainGlobals f = some (some (.ref fa)) ∧ W.K.lookup fa = some o ∧ o.data = .func fd ∧
    ∀ (A : Around) (s : Shared) (vals : List Value), Room n A → Gd W s.heap → Rps s.heap vals args → wpAny (model W.prog W.w) A (call (.ref fa) vals) (Post s (· = d)) F0 s
theorem Ok.more {W : Wd} {n m : Nat} {f : Str} {args : List D} {d : D} (k : Ok W n f args d) (h : n ≤ m) : Ok W m f args d := by
  obtain ⟨fa, o, fd, a, b, c, q⟩ := k
  exact ⟨fa, o, fd, a, b, c, fun A s vals r => q A s vals (r.less h)⟩

structure EnvOK (env : Env) : Prop where
  kf : env.scope.kind = .function
  gl : env.globals = mainGlobals
  bl : env.builtins = builtinsNs
  ce : ∀ x, env.scope.names.lookup x = some .cell → ∃ c, env.cells.lookup x = some c

def isLoc (nm : List (Str × NameKind)) (x : Str) : Bool := x != ("__debug__" : Str) && (match nm.lookup x with
  | some .local => true
  | some .cell => true
  | some .free => x != ("__classdict__" : Str)
  | _ => false)
def isGlo (nm : List (Str × NameKind)) (x : Str) : Bool := x != ("__debug__" : Str) && (match nm.lookup x with
  | some .globalImplicit => true
  | _ => false)

def VarAt (env : Env) (h : Heap) (m : Str → Option Value) (x : Str) (v : Value) : Prop := match env.scope.names.lookup x with
  | some .local => m x = some v
  | some .cell => ∃ c, env.cells.lookup x = some c ∧ h.IsCell c (some v)
  | some .free => ∃ c, env.cells.lookup x = some c ∧ h.IsCell c (some v)
  | _ => False

def Fro (ns : List Str) (env : Env) (h : Heap) (ρ : Rho) : Prop :=
  ∃ m, h.Ns env.locals m ∧ ∀ (i : Nat) (x : Str) (d : D), ns[i]? = some x → ρ[i]? = some (some d) → isLoc env.scope.names x = true → ∃ v, VarAt env h m x v ∧ Rp h v d
theorem VarAt.ext {env : Env} {h h' : Heap} {m : Str → Option Value} {x : Str} {v : Value} (k : Ext h h') (a : VarAt env h m x v) : VarAt env h' m x v := by
  unfold VarAt at a ⊢
  split at a
  · exact a
  · obtain ⟨c, e, q⟩ := a; exact ⟨c, e, q.keeps k⟩
  · obtain ⟨c, e, q⟩ := a; exact ⟨c, e, q.keeps k⟩
  · exact a
theorem Fro.ext {ns : List Str} {env : Env} {h h' : Heap} {ρ : Rho} (f : Fro ns env h ρ) (k : Ext h h') : Fro ns env h' ρ := by
  obtain ⟨m, hn, hv⟩ := f
  exact ⟨m, hn.keeps k, fun i x d a b c => let ⟨v, q, r⟩ := hv i x d a b c; ⟨v, q.ext k, r.ext k⟩⟩

def valInt : Value → Int → Bool
  | .int j _, i => i == j
  | _, _ => false
def valInts : List Value → List Int → Bool
  | [], [] => true
  | v :: vs, i :: is => valInt v i && valInts vs is
  | _, _ => false
def gloI (K : Frag) (x : Str) (i : Int) : Bool := match nsIn K mainGlobals x with
  | some (some v) => valInt v i
  | _ => false
def gloS (K : Frag) (x : Str) (y : Str) : Bool := match nsIn K mainGlobals x with
  | some (some (.str z _)) => y == z
  | _ => false
def gloT (K : Frag) (x : Str) (l : List Int) : Bool := match nsIn K mainGlobals x with
  | some (some (.ref a)) => (match K.lookup a with
    | some ⟨.type "tuple", _, .seq vs _, _⟩ => valInts vs.toList l
    | _ => false)
  | _ => false
/-- not bound by the text -/
def isB (K : Frag) (nm : List (Str × NameKind)) (x : Str) : Bool := isGlo nm x && (match nsIn K mainGlobals x with
  | some none => true
  | _ => false)

def notStar : Expr → Bool
  | .Starred .. => false
  | _ => true
def notSlice : Expr → Bool
  | .Slice .. => false
  | _ => true
def plainO : Expr → Bool
  | .Name .. => true
  | .BinOp .. => true
  | _ => false
def notSet : Expr → Bool
  | .Set .. => false
  | _ => true

def compNames (nm sc : List (Str × NameKind)) : List (Str × NameKind) := sc.map fun (n, k) => if k == .free && nm.lookup n == some .cell then (n, .cell) else (n, k)
def compOk (K : Frag) (nm : List (Str × NameKind)) (scope : Scope) (x : Str) : Bool :=
  scope.kind == .function && scope.names.lookup x == some .local && scope.names.all (fun y => y.2 != .cell && (y.2 != .local || scope.names.lookup y.1 == some .local) && (y.2 != .free || nm.lookup y.1 == some .cell))

def fnIn (K : Frag) (f : Str) : Bool := match nsIn K mainGlobals f with
  | some (some (.ref a)) => (match K.lookup a with
    | some ⟨_, _, .func _, _⟩ => true
    | _ => false)
  | _ => false
/-- the names of a comprehension: none of the outer ones is its own -/
def compNs (ns : List Str) (scope : Scope) : Bool := ns.all fun y => scope.names.lookup y != some .local

section
variable (K : Frag)
mutual
def mE (nm : List (Str × NameKind)) (ns : List Str) : ME → Expr → Bool
  | .loc i, e => match e with
    | .Name x _ => ns[i]? == some x && isLoc nm x
    | _ => false
  | .gint x i, e => match e with
    | .Name y _ => x == y && isGlo nm x && gloI K x i
    | _ => false
  | .gstr x z, e => match e with
    | .Name y _ => x == y && isGlo nm x && gloS K x z
    | _ => false
  | .gtup x l, e => match e with
    | .Name y _ => x == y && isGlo nm x && gloT K x l
    | _ => false
  | .int i, e => match e with
    | .Constant (.int j) _ _ => i == j
    | _ => false
  | .str i, e => match e with
    | .Constant (.str j) _ _ => i == j
    | _ => false
  | .bool i, e => match e with
    | .Constant (.bool j) _ _ => i == j
    | _ => false
  | .bin op l r, e => match e with
    | .BinOp l' op' r' _ => op == op' && mE nm ns l l' && mE nm ns r r'
    | _ => false
  | .neg x, e => match e with
    | .UnaryOp .USub y _ => mE nm ns x y
    | _ => false
  | .not x, e => match e with
    | .UnaryOp .Not y _ => mE nm ns x y
    | _ => false
  | .and l r, e => match e with
    | .BoolOp .And [l', r'] _ => mE nm ns l l' && mE nm ns r r'
    | _ => false
  | .or l r, e => match e with
    | .BoolOp .Or [l', r'] _ => mE nm ns l l' && mE nm ns r r'
    | _ => false
  | .cmp op l r, e => match e with
    | .Compare l' [op'] [r'] _ => op == op' && mE nm ns l l' && mE nm ns r r' && notSet r'
    | _ => false
  | .ife c t f, e => match e with
    | .IfExp c' t' f' _ => mE nm ns c c' && mE nm ns t t' && mE nm ns f f'
    | _ => false
  | .tup es, e => match e with
    | .Tuple es' _ _ => mEs nm ns es es' && decide (es.length < 100)
    | _ => false
  | .lst es, e => match e with
    | .List es' _ => mEs nm ns es es' && decide (es.length < 100)
    | _ => false
  | .item o i, e => match e with
    | .Subscript o' i' _ => mE nm ns o o' && mE nm ns i i' && notSlice i'
    | _ => false
  | .shd i, e => match e with
    | .Subscript (.Name g _) i' _ => g == ("shifts_down" : Str) && isGlo nm g && mE nm ns i i' && notSlice i'
    | _ => false
  | .call f es, e => match e with
    | .Call (.Name g _) (a :: as) [] _ => f == g && isGlo nm g && mEs nm ns es (a :: as) && fnIn K f
    | _ => false
  | .bl o, e => match e with
    | .Call (.Attribute o' a apos) [] [] pos => a == ("bit_length" : Str) && mE nm ns o o' && plainO o' && apos.endLine == pos.line
    | _ => false
  | .isInt o, e => match e with
    | .Call (.Name g _) [o', .Name t _] [] _ => g == ("isinstance" : Str) && t == ("int" : Str) && isB K nm g && isB K nm t && mE nm ns o o' && notStar o'
    | _ => false
  | .toInt o, e => match e with
    | .Call (.Name g _) [o'] [] _ => g == ("int" : Str) && isB K nm g && mE nm ns o o' && notStar o'
    | _ => false
  | .dvm o i, e => match e with
    | .Call (.Name g _) [o', i'] [] _ => g == ("divmod" : Str) && isB K nm g && mE nm ns o o' && notStar o' && mE nm ns i i' && notStar i'
    | _ => false
  | .mx o i, e => match e with
    | .Call (.Name g _) [o', i'] [] _ => g == ("max" : Str) && isB K nm g && mE nm ns o o' && notStar o' && mE nm ns i i' && notStar i'
    | _ => false
  | .len o, e => match e with
    | .Call (.Name g _) [o'] [] _ => g == ("len" : Str) && isB K nm g && mE nm ns o o' && notStar o'
    | _ => false
  | .all o, e => match e with
    | .Call (.Name g _) [o'] [] _ => g == ("all" : Str) && isB K nm g && mE nm ns o o' && notStar o'
    | _ => false
  | .comp src x elt, e => match e with
    | .ListComp elt' [⟨.Name y _, iter, [], 0⟩] scope _ => x == y && compOk K nm scope x && compNs ns scope && mE (compNames nm scope.names) (x :: ns) elt elt' &&
        (match src, iter with
          | .range n, .Call (.Name g _) [.Constant (.int k) _ _] [] _ => g == ("range" : Str) && isB K nm g && k == (n : Int) && decide (n < 100)
          | .text t, .Constant (.str t') _ _ => t == t' && t.cps.all (· < 128) && decide (t.cps.size < 100)
          | _, _ => false)
    | _ => false
  | .bad, _ => true
def mEs (nm : List (Str × NameKind)) (ns : List Str) : List ME → List Expr → Bool
  | [], l => l.isEmpty
  | x :: xs, l => match l with
    | y :: ys => mE nm ns x y && notStar y && mEs nm ns xs ys
    | [] => false
end
end
end Mine

end

section
open PySem PySem.Calls
set_option maxRecDepth 100000
set_option linter.unusedVariables false
namespace Mine
open PySem.W (Frag nsIn mg_of mg_none_of)

section
variable {W : Wd} {A : Around} {E : Value → Shared → Prop} {s : Shared} {env : Env} {n : Nat} {ns : List Str}

theorem debug_of {x : Str} {b : Bool} (h : (x != ("__debug__" : Str) && b) = true) : (x == ("__debug__" : Str)) = false ∧ b = true := by
  obtain ⟨h1, h2⟩ := Bool.and_eq_true_iff.mp h
  exact ⟨by simpa [bne] using h1, h2⟩

theorem nameLoc {M : Model} {x : Str} {pos : Pos} {v : Value} {m : Str → Option Value} {Q : Value → Shared → Prop} (hx : isLoc env.scope.names x = true) (H : EnvOK env) (hn : s.heap.Ns env.locals m) (hv : VarAt env s.heap m x v) (h : Q v s) :
    wpAny M A (eval (.Name x pos) env) Q E s := by
  obtain ⟨hd, h2⟩ := debug_of hx
  unfold VarAt at hv
  refine wpAny_Name ?_ hd
  split at h2
  · rename_i e
    rw [e] at hv
    exact wpAny_loadName_local H.kf e hn hv h
  · rename_i e
    rw [e] at hv
    obtain ⟨c, e1, e2⟩ := hv
    exact wpAny_loadName_cell H.kf e e1 e2 h
  · rename_i e
    rw [e] at hv
    obtain ⟨c, e1, e2⟩ := hv
    exact wpAny_loadName_free H.kf e e1 e2 h (by simpa [bne] using h2)
  · cases h2

theorem gloKind {x : Str} (hx : isGlo env.scope.names x = true) : env.kindOf x = some .globalImplicit ∧ (x == ("__debug__" : Str)) = false := by
  obtain ⟨hd, h2⟩ := debug_of hx
  split at h2
  · rename_i e; exact ⟨e, hd⟩
  · cases h2

theorem nameGlo {M : Model} {x : Str} {pos : Pos} {v : Value} {Q : Value → Shared → Prop} (G : Gd W s.heap) (H : EnvOK env) (hx : isGlo env.scope.names x = true) (e : nsIn W.K mainGlobals x = some (some v)) (h : Q v s) :
    wpAny M A (eval (.Name x pos) env) Q E s := by
  obtain ⟨hk, hd⟩ := gloKind hx
  exact Name_function_global H.kf hk (loadGlobal_global (by rw [H.gl]; exact G.T.g) (mg_of G.X G.T.g e) h) hd

theorem nameB {M : Model} {x : Str} {pos : Pos} {v : Value} {Q : Value → Shared → Prop} (G : Gd W s.heap) (H : EnvOK env) (hx : isB W.K env.scope.names x = true) (hb : bootBuiltins x = some v) (hn : x ≠ "__name__") (h : Q v s) :
    wpAny M A (eval (.Name x pos) env) Q E s := by
  unfold isB at hx
  obtain ⟨h1, h2⟩ := Bool.and_eq_true_iff.mp hx
  obtain ⟨hk, hd⟩ := gloKind h1
  have e : nsIn W.K mainGlobals x = some none := by
    split at h2
    · rename_i e; exact e
    · cases h2
  exact Name_function_global H.kf hk (loadGlobal_builtin (by rw [H.gl]; exact G.T.g) (mg_none_of G.X G.T.g e) (by rw [H.bl]; exact G.T.b) ((G.T.builtins x hn).trans hb) h) hd

/-- many evaluations, one behind the other -/
def PostL (s : Shared) (P : List D → Prop) : List Value → Shared → Prop := fun vs s' =>
  ∃ (h : Heap) (tk : Nat) (ds : List D), s' = { s with heap := h, toks := tk } ∧ Ext s.heap h ∧ Rps h vs ds ∧ P ds

theorem starEach_cons {e : Expr} {r : List Expr} (h : notStar e = true) : starEach (e :: r) env = (false, eval e env) :: starEach r env := by
  cases e <;> first | rfl | cases h
theorem backTo_cons {pos : Pos} {t : Sem Value} {r : List (Bool × Sem Value)} : backTo pos ((false, t) :: r) = (false, t) :: backTo pos r := rfl

theorem valInt_rp {h : Heap} {v : Value} {i : Int} (e : valInt v i = true) : Rp h v (.int i) := by
  cases v <;> simp [valInt] at e
  subst e
  exact .int _ _
theorem valInts_rp {h : Heap} : ∀ {vs : List Value} {l : List Int}, valInts vs l = true → Rps h vs (l.map .int)
  | [], [], _ => .nil
  | [], _ :: _, e => by simp [valInts] at e
  | _ :: _, [], e => by simp [valInts] at e
  | v :: vs, i :: l, e => by
    simp only [valInts, Bool.and_eq_true] at e
    exact .cons (valInt_rp e.1) (valInts_rp e.2)

theorem gloI_of {K : Frag} {x : Str} {i : Int} (e : gloI K x i = true) : ∃ v, nsIn K mainGlobals x = some (some v) ∧ ∀ h, Rp h v (.int i) := by
  unfold gloI at e
  split at e
  · rename_i v q; exact ⟨v, q, fun h => valInt_rp e⟩
  · cases e
theorem gloS_of {K : Frag} {x : Str} {i : Str} (e : gloS K x i = true) : ∃ v, nsIn K mainGlobals x = some (some v) ∧ ∀ h, Rp h v (.str i) := by
  unfold gloS at e
  split at e
  · rename_i z t q
    have := beq_iff_eq.mp e
    subst this
    exact ⟨_, q, fun h => .str _ _⟩
  · cases e
theorem gloT_of {K : Frag} {x : Str} {l : List Int} (e : gloT K x l = true) : ∃ v, nsIn K mainGlobals x = some (some v) ∧ ∀ h, K.In h → Rp h v (.tuple (l.map .int)) := by
  unfold gloT at e
  split at e
  · rename_i a q
    split at e
    · rename_i dd vs nn sl q2
      exact ⟨_, q, fun h X => .tup (X _ _ q2) rfl rfl (valInts_rp e)⟩
    · cases e
  · cases e

theorem eqv4 {xs ys : List D} {b : Bool} (e : eq4 xs ys = some b) : PyData.eqv (.tuple xs) (.tuple ys) = b ∧ SeqAt.shaped (.tuple xs) = true ∧ SeqAt.shaped (.tuple ys) = true := by
  unfold eq4 at e
  split at e
  · cases e
    refine ⟨?_, ?_, ?_⟩
    · simp [PyData.eqv, PyData.eqvAll, Bool.decide_and]; rfl
    · simp [SeqAt.shaped, PyData.canLay0, PyData.canLayAll0, PyData.depth, PyData.depthAll]
    · simp [SeqAt.shaped, PyData.canLay0, PyData.canLayAll0, PyData.depth, PyData.depthAll]
  · cases e

end

section
variable {prog : Program} {w : World} {A : Around} {s : Shared} {va vb : Value} {a b : D} {P : D → Prop} {n : Nat}

theorem bool_congr {b c : Bool} (e : b = c) (p : P (.bool c)) : P (.bool b) := e ▸ p

theorem in_list_any {c x : Value} {xs : List D} {d : D} {Q : Value → Shared → Prop} (R : Room n A) (rc : Rp s.heap c (.list xs)) (rx : Rp s.heap x d) (hc : SeqAt.shaped (.list xs) = true) (hd : SeqAt.shaped d = true)
    (h : Q (.bool (xs.any fun y => PyData.eqv y d)) s) : wpAny (model prog w) A (compareOp .In x c) Q F0 s := by
  obtain ⟨_, r1⟩ := rc.reads
  obtain ⟨_, r2⟩ := rx.reads
  exact SeqAt.in_list_reads r1 r2 (SeqAt.canLay_of_shaped hc) (SeqAt.canLay_of_shaped hd) (PyProof.Rows.room_in_shaped hd (by have := R.units; omega)) h

theorem cmp_sound {op : CmpOp} (R : Room n A) (ra : Rp s.heap va a) (rb : Rp s.heap vb b) {c : Bool} (e : cmpD op a b = some c) (h : P (.bool c)) : wpAny (model prog w) A (compareOp op va vb) (Post s P) F0 s := by
  unfold cmpD at e
  split at e
  · cases ra; cases rb; cases e; exact PyProof.Rows.eq_int (Post.bool (bool_congr (by rfl) h))
  · cases ra; cases rb; cases e; exact PyProof.Rows.ne_int (Post.bool (bool_congr (by rfl) h))
  · cases ra; cases rb; cases e; exact PyProof.Rows.lt_int (Post.bool h)
  · cases ra; cases rb; cases e; exact PyProof.Rows.le_int (Post.bool h)
  · cases ra; cases rb; cases e; exact PyProof.Rows.gt_int (Post.bool h)
  · cases ra; cases rb; cases e; exact PyProof.Rows.ge_int (Post.bool h)
  · cases ra; cases rb; cases e; exact PyProof.Rows.eq_str (Post.bool h)
  · obtain ⟨e1, e2, e3⟩ := eqv4 e
    obtain ⟨_, r1⟩ := ra.reads
    obtain ⟨_, r2⟩ := rb.reads
    exact SeqAt.compareEq_shaped r1 r2 e2 e3 (by have := R.units; omega) (Post.bool (bool_congr e1 h))
  · rename_i xs ys
    cases q : eq4 xs ys with
    | none => rw [q] at e; cases e
    | some c' =>
      rw [q] at e
      cases e
      obtain ⟨e1, e2, e3⟩ := eqv4 q
      obtain ⟨_, r1⟩ := ra.reads
      obtain ⟨_, r2⟩ := rb.reads
      exact SeqAt.compareNe_shaped r1 r2 e2 e3 (by have := R.units; omega) (Post.bool (bool_congr (by rw [e1]) h))
  · cases e
    refine in_list_any R rb ra (by simp [SeqAt.shaped, PyData.canLay0, PyData.canLayAll0, PyData.depth, PyData.depthAll]) (by simp [SeqAt.shaped, PyData.canLay0, PyData.depth]) (Post.bool (bool_congr ?_ h))
    simp [PyData.eqv, Bool.decide_or]
    rfl
  · split at e
    · rename_i p q h1 h2
      cases e
      obtain ⟨e1, e2, e3⟩ := eqv4 h1
      obtain ⟨f1, f2, f3⟩ := eqv4 h2
      refine in_list_any R rb ra ?_ e3 (Post.bool (bool_congr ?_ h))
      · simp only [SeqAt.shaped, Bool.and_eq_true, decide_eq_true_eq] at e2 f2 ⊢
        simp only [PyData.canLay0, PyData.canLayAll0, PyData.depth, PyData.depthAll, Bool.and_true, Bool.and_eq_true] at e2 f2 ⊢
        refine ⟨⟨e2.1, f2.1⟩, ?_⟩
        unfold eq4 at h1 h2
        split at h1
        · split at h2
          · simp [PyData.depth, PyData.depthAll]
          · cases h2
        · cases h1
      · simp [e1, f1]
    · cases e
  · cases ra; cases rb; cases e; exact PyProof.Rows.in_str (Post.bool h)
  · cases e

theorem truthy_sound {c : Bool} {Q : Bool → Shared → Prop} (ra : Rp s.heap va a) (e : truthD a = some c) (h : Q c s) : wpAny (model prog w) A (truthy va) Q F0 s := by
  unfold truthD at e
  split at e
  · cases ra; cases e; exact wpAny_truthy_bool h
  · cases ra; cases e
    refine PyProof.Rows.truthy_int ?_
    rename_i i _
    have : (i != 0) = !decide (i = 0) := rfl
    rw [this]; exact h
  · cases e

theorem not_sound {c : Bool} (ra : Rp s.heap va a) (e : truthD a = some c) (h : P (.bool (!c))) : wpAny (model prog w) A (unaryOp .Not va) (Post s P) F0 s := by
  exact PyProof.Rows.not_of (truthy_sound ra e (Post.bool h))
theorem neg_sound {x : Int} (ra : Rp s.heap va (.int x)) (h : P (.int (-x))) : wpAny (model prog w) A (unaryOp .USub va) (Post s P) F0 s := by
  cases ra
  exact PyProof.Rows.neg_int (Post.int h)
theorem item_sound {value slice : Expr} {d : D} (hs : notSlice slice = true) (ra : Rp s.heap va a) (rb : Rp s.heap vb b) (e : itemD a b = some d) (h : P d) : wpAny (model prog w) A (PyProof.Rows.subscriptTail value slice va vb) (Post s P) F0 s := by
  have hsub : ∀ o i, subscripted slice false o i = operate [o, i] (getItem o i) := by
    intro o i
    cases slice <;> first | rfl | cases hs
  unfold itemD at e
  split at e
  · split at e
    · rename_i xs k hk
      cases rb
      cases ra with
      | tup e1 e2 e3 r =>
        rename_i t a o vs nn
        obtain ⟨v, hv, rv⟩ := r.get e
        have hl := r.length
        have hlt : k.toNat < xs.length := (List.getElem?_eq_some_iff.mp e).1
        have hsz : vs.size = xs.length := by rw [← hl]; simp
        have hi : seqIndex? k vs.size = some k.toNat := by
          unfold seqIndex?
          rw [if_neg (by omega : ¬ k < 0)]
          have : (decide (0 ≤ k) && decide (k < (vs.size : Int))) = true := by
            rw [Bool.and_eq_true, decide_eq_true_eq, decide_eq_true_eq]; omega
          rw [if_pos this]
        refine PyProof.Rows.tail_any (T := "tuple") (show s.TypeIs (.ref _) "tuple" from ⟨o, e1, e2⟩) PyProof.Rows.slot_tuple_getitem.lookup (PyProof.Rows.getItem_tuple (items := vs) (j := k.toNat) (x := v) ⟨o, e1, e2, _, e3⟩ (by omega) (by omega) hi ?_ (Post.here rv h)) (hsub _ _)
        simpa using hv
    · cases e
  · split at e
    · rename_i xs k hk
      cases rb
      cases ra with
      | lst e1 e2 e3 r =>
        rename_i t a o vs nn
        obtain ⟨v, hv, rv⟩ := r.get e
        refine PyProof.Rows.tail_any (T := "list") (show s.TypeIs (.ref _) "list" from ⟨o, e1, e2⟩) slot_list_getitem.lookup (wpAny_getItem_list (items := vs) (x := v) (k := k) ⟨o, e1, e2, _, e3⟩ (by omega) (by omega) ?_ (Post.here rv h)) (hsub _ _)
        simpa using hv
    · cases e
  · cases e
end
end Mine

end

section
open PySem PySem.Calls
set_option maxRecDepth 100000
set_option linter.unusedVariables false
namespace Mine
open PySem.W (Frag nsIn mg_of mg_none_of)

def tupIn (K : Frag) (v : Value) (l : List Int) : Bool := match v with
  | .ref a => (match K.lookup a with
    | some ⟨.type "tuple", _, .seq vs _, _⟩ => valInts vs.toList l
    | _ => false)
  | _ => false
theorem tupIn_rp {K : Frag} {h : Heap} {v : Value} {l : List Int} (X : K.In h) (e : tupIn K v l = true) : Rp h v (.tuple (l.map .int)) := by
  unfold tupIn at e
  split at e
  · split at e
    · rename_i q2
      exact .tup (X _ _ q2) rfl rfl (valInts_rp e)
    · cases e
  · cases e

def ShdAt (W : Wd) : Prop := ∃ (a : Addr) (es : Array DictEntry) (n : Nat), nsIn W.K mainGlobals ("shifts_down" : Str) = some (some (.ref a)) ∧ W.K.lookup a = some ⟨.type "dict", none, .dict es n, #[]⟩ ∧ PySem.W.KeysLit W.w.params es.toList ∧
  ∀ x d, shdD (.str x) = some d → ∃ v l, nsIn W.K a x = some (some v) ∧ tupIn W.K v l = true ∧ d = .tuple (l.map .int)

section
variable {W : Wd} {A : Around} {s : Shared} {env : Env} {n : Nat} {ns : List Str} {va vb : Value} {a b d : D} {P : D → Prop}

theorem shd_sound {slice : Expr} {gp : Pos} (S : ShdAt W) (G : Gd W s.heap) (hs : notSlice slice = true) {o : Value} (ho : nsIn W.K mainGlobals ("shifts_down" : Str) = some (some o)) (ra : Rp s.heap va a) (e : shdD a = some d) (h : P d) :
    wpAny (model W.prog W.w) A (PyProof.Rows.subscriptTail (.Name ("shifts_down" : Str) gp) slice o va) (Post s P) F0 s := by
  obtain ⟨q, es, nn, h1, h2, h3, h4⟩ := S
  rw [h1] at ho
  cases ho
  have hsub : ∀ o i, subscripted slice false o i = operate [o, i] (getItem o i) := by
    intro o i
    cases slice <;> first | rfl | cases hs
  have e0 := e
  unfold shdD at e0
  split at e0
  · rename_i x
    cases ra with
    | str _ t =>
      obtain ⟨v, l, e1, e2, rfl⟩ := h4 x d e
      have hm := PySem.W.mapOf_K (prog := W.prog) (w := W.w) G.X h2 h3
      exact PyProof.Rows.tail_any hm.typeIs slot_dict_getitem.lookup (wpAny_getItem_of (strKind_is W.prog W.w x t) hm (PySem.W.find_K h2 e1)
        (Post.mk (s := s) (Ext.refl _) (tupIn_rp G.X e2) h)) (hsub _ _)
  · cases e0

theorem attrBase {o : Expr} {nm : Str} {w : Sem Value} (h : plainO o = true) : attributeBase o nm env w = w := by
  cases o <;> first | rfl | cases h

theorem bl_sound {o : Expr} {apos pos : Pos} {x : Int} (hp : plainO o = true) (hl : (apos.endLine == pos.line) = true)
    (h : wpAny (model W.prog W.w) A (eval o env) (Post s fun a => ∃ x, a = .int x ∧ P (.int (Builtin.Int.intBits x))) F0 s) :
    wpAny (model W.prog W.w) A (eval (.Call (.Attribute o ("bit_length" : Str) apos) [] [] pos) env) (Post s P) F0 s := by
  refine wpAny_Call_method0_late (attrBase hp) hl (wpAny_mono h (fun ov s₁ h₁ => ?_) fun _ _ e => e)
  obtain ⟨h', tk', d, rfl, e, r, x, rfl, p⟩ := h₁
  cases r with
  | int _ t =>
    refine ⟨"int", "int.bit_length", PySem.F.plainAttrs_int, PyProof.Rows.slot_int_bit_length, PyProof.Rows.type_int_bit_length, typeIs_int _ _ _, (fun a e => by cases e), ?_⟩
    exact callWith_builtin rfl (evalArgs_none (PyProof.Rows.call_int_bit_length (Post.back e (Post.int p))))

theorem isInt_sound {o' : Expr} {g tt : Str} {gp tp pos : Pos} (R : Room n A) (H : EnvOK env) (hg : g = ("isinstance" : Str)) (ht : tt = ("int" : Str)) (G : Gd W s.heap) (h1 : isB W.K env.scope.names g = true) (h2 : isB W.K env.scope.names tt = true) (hs : notStar o' = true)
    (h : wpAny (model W.prog W.w) A (eval o' env) (Post s fun a => ∃ x, a = .int x ∧ P (.bool true)) F0 s) :
    wpAny (model W.prog W.w) A (eval (.Call (.Name g gp) [o', .Name tt tp] [] pos) env) (Post s P) F0 s := by
  subst hg; subst ht
  refine wpAny_Call_NameR (nameB G H h1 PyProof.Rows.Boot.«isinstance» (by decide) ?_)
  rw [starEach_cons hs, starEach_cons (by rfl)]
  refine callWith_builtin rfl (evalArgs_plain (spliced_cons (wpAny_mono h (fun ov s₁ h₁ => ?_) fun _ _ e => e)))
  obtain ⟨h', tk', d, rfl, e, r, x, rfl, p⟩ := h₁
  cases r with
  | int _ t =>
    refine spliced_cons (nameB (G.ext e) H h2 PyProof.Rows.Boot.«int» (by decide) (spliced_nil ?_))
    exact PyProof.Rows.call_isinstance_yes (T := "int") (Tx := "int") (typeIs_int _ _ _) (by rfl) PyProof.Rows.sub_int_int (Post.mk e (.bool true) p)

theorem toInt_sound {o' : Expr} {g : Str} {gp pos : Pos} (H : EnvOK env) (hg : g = ("int" : Str)) (G : Gd W s.heap) (h1 : isB W.K env.scope.names g = true) (hs : notStar o' = true)
    (h : wpAny (model W.prog W.w) A (eval o' env) (Post s fun a => ∃ x, a = .int x ∧ P (.int x)) F0 s) :
    wpAny (model W.prog W.w) A (eval (.Call (.Name g gp) [o'] [] pos) env) (Post s P) F0 s := by
  subst hg
  refine wpAny_Call_NameR (nameB G H h1 PyProof.Rows.Boot.«int» (by decide) ?_)
  rw [starEach_cons hs]
  refine PyProof.Rows.callWith_type rfl (evalArgs_plain (spliced_cons (wpAny_mono h (fun ov s₁ h₁ => ?_) fun _ _ e => e)))
  obtain ⟨h', tk', d, rfl, e, r, x, rfl, p⟩ := h₁
  cases r with
  | int _ t => exact spliced_nil (call_int_int (Post.mk e (.int _ _) p))

theorem dvm_sound {o' i' : Expr} {g : Str} {gp pos : Pos} (H : EnvOK env) (hg : g = ("divmod" : Str)) (G : Gd W s.heap) (h1 : isB W.K env.scope.names g = true) (hs : notStar o' = true) (hs' : notStar i' = true)
    (h : wpAny (model W.prog W.w) A (eval o' env) (fun va s₁ => wpAny (model W.prog W.w) A (eval i' env) (fun vb s₂ => ∃ h' tk x y t u, s₂ = { s with heap := h', toks := tk } ∧ Ext s.heap h' ∧ va = .int x t ∧ vb = .int y u ∧ (y ≠ 0 ∧ y.natAbs.log2 < 9000) ∧ P (.tuple [.int (x.fdiv y), .int (x.fmod y)])) F0 s₁) F0 s) :
    wpAny (model W.prog W.w) A (eval (.Call (.Name g gp) [o', i'] [] pos) env) (Post s P) F0 s := by
  subst hg
  refine wpAny_Call_NameR (nameB G H h1 PyProof.Rows.Boot.«divmod» (by decide) ?_)
  rw [starEach_cons hs, starEach_cons hs']
  refine callWith_builtin rfl (evalArgs_plain (spliced_cons (wpAny_mono h (fun va s₁ h₁ => spliced_cons (wpAny_mono h₁ (fun vb s₂ h₂ => spliced_nil ?_) fun _ _ e => e)) fun _ _ e => e)))
  obtain ⟨h', tk', x, y, t, u, rfl, e, rfl, rfl, p1, p2⟩ := h₂
  refine PyProof.Rows.divmod_int p1.1 ?_ (Or.inl (PyProof.noPylong_of_log2 p1.2))
  exact Post.mk (e.trans (Ext.push _ _)) (.tup (Heap.get?_push_size _ rfl) rfl rfl (.cons (.int _ _) (.cons (.int _ _) .nil))) p2

theorem mx_sound {o' i' : Expr} {g : Str} {gp pos : Pos} (R : Room n A) (H : EnvOK env) (hg : g = ("max" : Str)) (G : Gd W s.heap) (h1 : isB W.K env.scope.names g = true) (hs : notStar o' = true) (hs' : notStar i' = true)
    (h : wpAny (model W.prog W.w) A (eval o' env) (fun va s₁ => wpAny (model W.prog W.w) A (eval i' env) (fun vb s₂ => ∃ h' tk x y t u, s₂ = { s with heap := h', toks := tk } ∧ Ext s.heap h' ∧ va = .int x t ∧ vb = .int y u ∧ P (.int (if y > x then y else x))) F0 s₁) F0 s) :
    wpAny (model W.prog W.w) A (eval (.Call (.Name g gp) [o', i'] [] pos) env) (Post s P) F0 s := by
  subst hg
  refine wpAny_Call_NameR (nameB G H h1 PyProof.Rows.Boot.«max» (by decide) ?_)
  rw [starEach_cons hs, starEach_cons hs']
  refine callWith_builtin rfl (evalArgs_plain (spliced_cons (wpAny_mono h (fun va s₁ h₁ => spliced_cons (wpAny_mono h₁ (fun vb s₂ h₂ => spliced_nil ?_) fun _ _ e => e)) fun _ _ e => e)))
  obtain ⟨h', tk', x, y, t, u, rfl, e, rfl, rfl, p⟩ := h₂
  refine max_two_ints R.hh fun h2 tk2 hk => ?_
  by_cases q : y > x
  · rw [if_pos q] at p ⊢
    exact Post.mk (s := s) (e.trans hk) (.int _ _) p
  · rw [if_neg q] at p ⊢
    exact Post.mk (s := s) (e.trans hk) (.int _ _) p

theorem len_sound {o' : Expr} {g : Str} {gp pos : Pos} (H : EnvOK env) (hg : g = ("len" : Str)) (G : Gd W s.heap) (h1 : isB W.K env.scope.names g = true) (hs : notStar o' = true)
    (h : wpAny (model W.prog W.w) A (eval o' env) (Post s fun a => ∃ l : List D, a = .list l ∧ l.length < 100 ∧ P (.int l.length)) F0 s) :
    wpAny (model W.prog W.w) A (eval (.Call (.Name g gp) [o'] [] pos) env) (Post s P) F0 s := by
  subst hg
  refine wpAny_Call_NameR (nameB G H h1 PyProof.Rows.Boot.«len» (by decide) ?_)
  rw [starEach_cons hs]
  refine callWith_builtin rfl (evalArgs_plain (spliced_cons (wpAny_mono h (fun ov s₁ h₁ => spliced_nil ?_) fun _ _ e => e)))
  obtain ⟨h', tk', d, rfl, e, r, l, rfl, p1, p2⟩ := h₁
  cases r with
  | lst e1 e2 e3 r =>
    rename_i a o vs nn
    have hl := r.length
    have hsz : vs.size = l.length := by rw [← hl]; simp
    refine call_len_list (items := vs) ⟨_, e1, e2, _, e3⟩ (by omega) ?_
    rw [hsz]
    exact Post.mk e (.int _ _) p2

theorem allD_bools : ∀ {l : List D} {b : Bool}, allD l = some b → ∃ bl : List Bool, l = bl.map PyData.bool ∧ b = bl.all id
  | [], b, e => ⟨[], rfl, by cases e; rfl⟩
  | .bool c :: r, b, e => by
    simp only [allD, Option.map_eq_some_iff] at e
    obtain ⟨b', e1, rfl⟩ := e
    obtain ⟨bl, rfl, rfl⟩ := allD_bools e1
    exact ⟨c :: bl, rfl, rfl⟩
  | .none :: _, _, e => by simp [allD] at e
  | .int _ :: _, _, e => by simp [allD] at e
  | .str _ :: _, _, e => by simp [allD] at e
  | .list _ :: _, _, e => by simp [allD] at e
  | .tuple _ :: _, _, e => by simp [allD] at e
  | .dict _ :: _, _, e => by simp [allD] at e
theorem bools_at {h : Heap} : ∀ {vs : List Value} {bl : List Bool} {i : Nat} {v : Value}, Rps h vs (bl.map PyData.bool) → vs[i]? = some v → v = .bool (bl.getD i true)
  | _ :: _, _ :: _, 0, _, .cons (.bool _) _, e => by cases e; rfl
  | _ :: _, _ :: bl, i + 1, _, .cons _ r, e => by
    have := bools_at (i := i) r e
    simpa using this
  | [], [], _, _, _, e => by simp at e
theorem all_range : ∀ bl : List Bool, (List.range bl.length).all (fun i => bl.getD i true) = bl.all id
  | [] => rfl
  | b :: bl => by
    have := all_range bl
    rw [List.length_cons, List.range_succ_eq_map, List.all_cons, List.all_map, List.all_cons]
    show (b && _) = (b && _)
    rw [← this]
    rfl

theorem all_sound {o' : Expr} {g : Str} {gp pos : Pos} (R : Room n A) (H : EnvOK env) (hg : g = ("all" : Str)) (G : Gd W s.heap) (h1 : isB W.K env.scope.names g = true) (hs : notStar o' = true)
    (h : wpAny (model W.prog W.w) A (eval o' env) (Post s fun a => ∃ (l : List D) (b : Bool), a = .list l ∧ allD l = some b ∧ P (.bool b)) F0 s) :
    wpAny (model W.prog W.w) A (eval (.Call (.Name g gp) [o'] [] pos) env) (Post s P) F0 s := by
  subst hg
  refine wpAny_Call_NameR (nameB G H h1 PyProof.Rows.Boot.«all» (by decide) ?_)
  rw [starEach_cons hs]
  refine callWith_builtin rfl (evalArgs_plain (spliced_cons (wpAny_mono h (fun ov s₁ h₁ => spliced_nil ?_) fun _ _ e => e)))
  obtain ⟨h', tk', d, rfl, e, r, l, b, rfl, p1, p2⟩ := h₁
  obtain ⟨bl, rfl, rfl⟩ := allD_bools p1
  cases r with
  | lst e1 e2 e3 r =>
    rename_i a o vs nn
    have hl := r.length
    have hsz : vs.size = bl.length := by rw [List.length_map] at hl; rw [← hl]; simp
    have hL : Heap.IsList h' a vs := ⟨_, e1, e2, _, e3⟩
    refine call_all_walk (wpAny_pyIter_list hL ⟨h'.objs.size, [h'.objs.size, a], [h'.objs.size], vs.size, _, _, fun i => bl.getD i true, rfl, Walks.list (A := A.in1) R.hh _ _ (Nat.ne_of_lt (Heap.lt_size e1)) vs, ⟨⟨_, Heap.get?_push_size _ rfl, rfl, rfl⟩, hL.push _⟩, ?_, ?_⟩)
    · intro i v s' Q E hP hQ
      have := bools_at r (i := i) (v := v) (by simpa using hP)
      subst this
      exact wpAny_truthy_bool hQ
    · intro h2 tk2 hk
      rw [hsz, all_range]
      refine Post.mk (s := s) (e.trans fun q o' eq => hk q o' (fun hm => ?_) (Heap.get?_push_of_some _ eq)) (.bool _) p2
      rcases List.mem_cons.mp hm with rfl | hm
      · exact Nat.lt_irrefl _ (Heap.lt_size eq)
      · cases hm
end
end Mine

end

section
open PySem PySem.Calls
set_option maxRecDepth 100000
set_option linter.unusedVariables false
namespace Mine
open PySem.W (Frag nsIn mg_of mg_none_of)

theorem beq_str {x y : Str} (h : (x == y) = true) : x = y := beq_iff_eq.mp h

theorem closureFor_ok {scope : Scope} {env : Env} (h : ∀ y ∈ scope.names, y.2 = .free → ∃ c, env.cells.lookup y.1 = some c) :
    ∃ cl, closureFor scope env = pure cl ∧ ∀ y, (y, NameKind.free) ∈ scope.names → cl.lookup y = env.cells.lookup y := by
  unfold closureFor
  have key : ∀ (l : List (Str × NameKind)) (acc : List (Str × Addr)), (∀ y ∈ l, y.2 = .free → ∃ c, env.cells.lookup y.1 = some c) → (∀ y c, acc.lookup y = some c → env.cells.lookup y = some c) →
      ∃ cl, (forIn l acc fun (x : Str × NameKind) (cs : List (Str × Addr)) => (match x with
        | (name, kind) => if (kind == NameKind.free) = true then (do let c ← cellOf env name; pure (ForInStep.yield ((name, c) :: cs))) else pure (ForInStep.yield cs) : Sem (ForInStep (List (Str × Addr))))) = pure cl ∧ (∀ y c, cl.lookup y = some c → env.cells.lookup y = some c) ∧ (∀ y c, acc.lookup y = some c → cl.lookup y = some c) ∧ ∀ y, (y, NameKind.free) ∈ l → ∃ c, cl.lookup y = some c := by
    intro l
    induction l with
    | nil => intro acc _ ha; exact ⟨acc, rfl, ha, fun _ _ e => e, fun _ hm => by cases hm⟩
    | cons x r ih =>
      intro acc hl ha
      obtain ⟨nm, k⟩ := x
      by_cases hk : k = .free
      · subst hk
        obtain ⟨c, hc⟩ := hl _ (List.mem_cons_self ..) rfl
        have ha' : ∀ y d, ((nm, c) :: acc).lookup y = some d → env.cells.lookup y = some d := by
          intro y d e
          rw [List.lookup_cons] at e
          cases q : y == nm with
          | true => rw [q] at e; cases e; rw [beq_iff_eq.mp q]; exact hc
          | false => rw [q] at e; exact ha y d e
        obtain ⟨cl, e1, e2, e3, e4⟩ := ih ((nm, c) :: acc) (fun y hy => hl y (List.mem_cons_of_mem _ hy)) ha'
        have hc9 : cellOf env nm = pure c := by unfold cellOf; rw [hc]
        refine ⟨cl, ?_, e2, fun y d e => ?_, fun y hm => ?_⟩
        · rw [List.forIn_cons]
          simp only [hc9, beq_self_eq_true, if_true, pure_bind]
          exact e1
        · obtain h5 := ha y d e
          have : ((nm, c) :: acc).lookup y = some d := by
            rw [List.lookup_cons]
            cases q : y == nm with
            | true => rw [beq_iff_eq.mp q, hc] at h5; simpa using h5
            | false => exact e
          exact e3 y d this
        · rcases List.mem_cons.mp hm with q | q
          · cases q
            exact ⟨c, e3 _ _ (by rw [List.lookup_cons]; simp)⟩
          · exact e4 y q
      · obtain ⟨cl, e1, e2, e3, e4⟩ := ih acc (fun y hy => hl y (List.mem_cons_of_mem _ hy)) ha
        refine ⟨cl, ?_, e2, e3, fun y hm => ?_⟩
        · rw [List.forIn_cons]
          have : (k == NameKind.free) = false := by simpa using hk
          simp only [this, Bool.false_eq_true, if_false, pure_bind]
          exact e1
        · rcases List.mem_cons.mp hm with q | q
          · cases q; exact absurd rfl hk
          · exact e4 y q
  obtain ⟨cl, e1, e2, _, e4⟩ := key scope.names [] h (fun _ _ e => by cases e)
  refine ⟨cl, ?_, fun y hm => ?_⟩
  · show ((forIn scope.names [] fun (x : Str × NameKind) (cs : List (Str × Addr)) => (match x with
        | (name, kind) => if (kind == NameKind.free) = true then (do let c ← cellOf env name; pure (ForInStep.yield ((name, c) :: cs))) else pure (ForInStep.yield cs) : Sem (ForInStep (List (Str × Addr))))) >>= fun cs => pure cs) = pure cl
    rw [e1]
    rfl
  · obtain ⟨c, hc⟩ := e4 y hm
    rw [hc, e2 y c hc]
end Mine

end

section
open PySem PySem.Calls
set_option maxRecDepth 100000
set_option linter.unusedVariables false
namespace Mine
open PySem.W (Frag nsIn mg_of mg_none_of)

mutual
theorem Rp.noL {h h' : Heap} (k : ∀ b o, h.get? b = some o → o.cls = .type "tuple" → h'.get? b = some o) : ∀ {v : Value} {d : D}, noLst d = true → Rp h v d → Rp h' v d
  | _, _, _, .none => .none
  | _, _, _, .bool b => .bool b
  | _, _, _, .int i t => .int i t
  | _, _, _, .str x t => .str x t
  | _, _, q, .tup e c d r => .tup (k _ _ e c) c d (Rps.noL k (by simpa [noLst] using q) r)
  | _, _, q, .lst e c d r => by simp [noLst] at q
theorem Rps.noL {h h' : Heap} (k : ∀ b o, h.get? b = some o → o.cls = .type "tuple" → h'.get? b = some o) : ∀ {v : List Value} {d : List D}, noLsts d = true → Rps h v d → Rps h' v d
  | _, _, _, .nil => .nil
  | _, _, q, .cons a b => by
    simp only [noLsts, Bool.and_eq_true] at q
    exact .cons (Rp.noL k q.1 a) (Rps.noL k q.2 b)
end
theorem noLsts_append : ∀ {a b : List D}, noLsts a = true → noLsts b = true → noLsts (a ++ b) = true
  | [], _, _, h => h
  | _ :: a, b, h, k => by
    simp only [noLsts, Bool.and_eq_true, List.cons_append] at h ⊢
    exact ⟨h.1, noLsts_append h.2 k⟩
theorem Rps.append {h : Heap} : ∀ {v w : List Value} {d e : List D}, Rps h v d → Rps h w e → Rps h (v ++ w) (d ++ e)
  | _, _, _, _, .nil, k => k
  | _, _, _, _, .cons a b, k => .cons a (Rps.append b k)

theorem lookup_relabel {env : Env} {scope : Scope} (H : EnvOK env) : (relabel scope env).names = compNames env.scope.names scope.names := by
  unfold relabel compNames
  apply List.map_congr_left
  intro y hy
  obtain ⟨m, k⟩ := y
  have : (env.scope.kind == ScopeKind.function) = true := by rw [H.kf]; rfl
  simp only [this, Bool.and_true]
  rfl

theorem compNames_lookup {nm sc : List (Str × NameKind)} {y : Str} : (compNames nm sc).lookup y = (sc.lookup y).map fun k => if (k == .free && nm.lookup y == some .cell) = true then .cell else k := by
  induction sc with
  | nil => rfl
  | cons z r ih =>
    obtain ⟨m, k⟩ := z
    show List.lookup y ((if _ then _ else _) :: compNames nm r) = _
    by_cases q : (y == m) = true
    · have e := beq_iff_eq.mp q
      subst e
      split
      · rename_i h
        simp only [List.lookup_cons, q, Option.map_some, h, if_true]
      · rename_i h
        simp only [List.lookup_cons, q, Option.map_some, h]
        simp
    · have q' : (y == m) = false := by simpa using q
      split
      · simp only [List.lookup_cons, q']; exact ih
      · simp only [List.lookup_cons, q']; exact ih

section
variable {W : Wd} {A : Around} {s : Shared} {env : Env} {n : Nat} {ns : List Str} {P : D → Prop} {ρ : Rho}

theorem seqExt_but {h h' : Heap} {b : Addr} (k : ∀ c o, c ≠ b → h.get? c = some o → h'.get? c = some o) (hb : ∀ o vs m, h.get? b = some o → o.data ≠ .seq vs m) : SeqExt h h' := fun c o vs m e d => by
  by_cases q : c = b
  · subst q; exact absurd d (hb o vs m e)
  · exact k c o q e
theorem ns_notSeq {h : Heap} {b : Addr} {m : Str → Option Value} (hn : h.Ns b m) : ∀ o vs k, h.get? b = some o → o.data ≠ .seq vs k := fun o vs k e d => by
  obtain ⟨o', es, ep, ho, hd, _⟩ := hn
  rw [ho] at e
  cases e
  rw [hd] at d
  cases d

theorem comp_sound {elt' iter : Expr} {x : Str} {px pos : Pos} {scope : Scope} {L : List D} {f : D → (D → Prop) → Prop} (R : Room n A) (H : EnvOK env) (hc : compOk W.K env.scope.names scope x = true) (hns : compNs ns scope = true)
    (F : Fro ns env s.heap ρ) (G : Gd W s.heap) (hs : ∀ y, foldedSetIterable iter env y = pure y) (hL : L.length ≤ 100)
    (hiter : wpAny (model W.prog W.w) A (eval iter env) (fun xv s₁ => wpAny (model W.prog W.w) A (pyIter xv) (fun it s₂ => ∃ I fp wr Pp St h tk, s₂ = { s with heap := h, toks := tk } ∧ it = .ref I ∧ Walks W.prog W.w A I fp wr L.length Pp St ∧ St 0 h ∧
      (∀ b ∈ fp, b < h.objs.size) ∧ Ext s.heap h ∧ (∀ b ∈ wr, s.heap.get? b = none) ∧ (∀ i h, St i h → ∀ b ∈ wr, ∀ o vs m, h.get? b = some o → o.data ≠ .seq vs m) ∧ ∀ i v, i < L.length → Pp i v → ∃ d, L[i]? = some d ∧ ∀ h', Rp h' v d) F0 s₁) F0 s)
    (helt : ∀ d cl C s' P', EnvOK (compEnvC scope cl C env) → (compEnvC scope cl C env).scope.names = compNames env.scope.names scope.names → Fro (x :: ns) (compEnvC scope cl C env) s'.heap (some d :: ρ) → Gd W s'.heap → f d P' → wpAny (model W.prog W.w) A (eval elt' (compEnvC scope cl C env)) (Post s' P') F0 s')
    (hP : wpEach f L fun ds => P (.list ds)) :
    wpAny (model W.prog W.w) A (eval (.ListComp elt' [⟨.Name x px, iter, [], 0⟩] scope pos) env) (Post s P) F0 s := by
  unfold compOk at hc
  simp only [Bool.and_eq_true, beq_iff_eq, List.all_eq_true, Bool.or_eq_true, bne_iff_ne, ne_eq] at hc
  obtain ⟨⟨hkind, hx⟩, hall⟩ := hc
  have hfree : ∀ y ∈ scope.names, y.2 = .free → ∃ c, env.cells.lookup y.1 = some c := fun y hy hk => by
    rcases (hall y hy).2 with q | q
    · exact absurd hk q
    · exact H.ce _ q
  obtain ⟨cl, hclos, hcl⟩ := closureFor_ok hfree
  have hcell : ∀ y ∈ scope.names, y.2 ≠ .cell := fun y hy => (hall y hy).1.1
  have hnames : ∀ y ∈ scope.names, y.2 = .local → scope.names.lookup y.1 = some .local := fun y hy hk => by
    rcases (hall y hy).1.2 with q | q
    · exact absurd hk q
    · exact q
  have hrel : ∀ C, (compEnvC scope cl C env).scope.names = compNames env.scope.names scope.names := fun C => lookup_relabel H
  have mem_lookup : ∀ (l : List (Str × NameKind)) (y : Str) (k : NameKind), l.lookup y = some k → (y, k) ∈ l := by
    intro l y k
    induction l with
    | nil => intro e; cases e
    | cons z r ih =>
      intro e
      obtain ⟨m, j⟩ := z
      rw [List.lookup_cons] at e
      cases q : y == m with
      | true => rw [q] at e; cases e; rw [beq_iff_eq.mp q]; exact List.mem_cons_self ..
      | false => rw [q] at e; exact List.mem_cons_of_mem _ (ih e)
  have hce : ∀ C y, (compEnvC scope cl C env).scope.names.lookup y = some .cell → scope.names.lookup y = some .free ∧ env.scope.names.lookup y = some .cell := by
    intro C y e
    rw [hrel C, compNames_lookup] at e
    cases q : scope.names.lookup y with
    | none => rw [q] at e; cases e
    | some k =>
      rw [q] at e
      simp only [Option.map_some, Option.some.injEq] at e
      split at e
      · rename_i h
        simp only [Bool.and_eq_true, beq_iff_eq] at h
        rw [h.1]; exact ⟨rfl, h.2⟩
      · subst e
        exact absurd rfl (hcell _ (mem_lookup _ _ _ q))
  have HC : ∀ C, EnvOK (compEnvC scope cl C env) := fun C => ⟨hkind, H.gl, H.bl, fun y e => by
    obtain ⟨e1, e2⟩ := hce C y e
    obtain ⟨c, hc⟩ := H.ce y e2
    exact ⟨c, by show cl.lookup y = some c; rw [hcl y (mem_lookup _ _ _ e1), hc]⟩⟩
  rw [eval_ListComp]
  refine wpAny_comprehension_free (use := none) rfl hs hclos hkind hnames (wpAny_mono hiter (fun xv s₁ h₁ => wpAny_mono h₁ (fun it s₂ h₂ => ?_) fun _ _ e => e) fun _ _ e => e)
  obtain ⟨I, fp, wr, Pp, St, h2, tk2, rfl, rfl, Wk, hst, hfp, ext, hfr, hsq, hPp⟩ := h₂
  refine wpAny_newObj_type (wpAny_newFunctionEnv hcell (by intro y hy; simp at hy) (fun h₁ hns₁ hsb₁ => ?_) hkind)
  dsimp only at hns₁ hsb₁ ⊢
  generalize hH2 : h2.push { cls := .type "list", dict := none, data := .seq ([] : List Value).toArray } = H2 at hns₁ hsb₁ ⊢
  have hC : H2.objs.size = h2.objs.size + 1 := by rw [← hH2, Heap.size_push]
  generalize hCe : H2.objs.size = C at hns₁ hsb₁ hC ⊢
  have hdl : ∃ Dl, Dl = h2.objs.size := ⟨_, rfl⟩
  obtain ⟨Dl, hDe⟩ := hdl
  rw [← hDe] at hC ⊢
  have hDC : Dl ≠ C := by omega
  have hfpD : ∀ b ∈ fp, b ≠ Dl ∧ b ≠ C := fun b hb => ⟨Nat.ne_of_lt (hDe ▸ hfp b hb), Nat.ne_of_lt (by rw [hC, hDe]; exact Nat.lt_succ_of_lt (hfp b hb))⟩
  have fresh : ∀ b o, s.heap.get? b = some o → b < Dl := fun b o e => by rw [hDe]; exact Heap.lt_size (ext b o e)
  have neD : ∀ b o, s.heap.get? b = some o → b ≠ Dl := fun b o e => Nat.ne_of_lt (fresh b o e)
  have neC : ∀ b o, s.heap.get? b = some o → b ≠ C := fun b o e => Nat.ne_of_lt (by rw [hC]; exact Nat.lt_succ_of_lt (fresh b o e))
  have old : ∀ b o, h2.get? b = some o → h₁.get? b = some o := fun b o e => hsb₁.extBut b o (Nat.ne_of_lt (by rw [hC, hDe]; exact Nat.lt_succ_of_lt (Heap.lt_size e))) (Heap.get?_push_of_some _ (by rw [← hH2]; exact Heap.get?_push_of_some _ e))
  have hacc : h₁.IsList Dl #[] := ⟨_, hsb₁.extBut _ _ hDC (Heap.get?_push_of_some _ (by rw [← hH2, hDe]; exact Heap.get?_push_size _ rfl)), rfl, _, rfl⟩
  have hst₁ : St 0 h₁ := Wk.frame _ _ _ hst fun b _ o e => old b o e
  have loop : ∀ tk, codeAny (model W.prog W.w) A (.compLoop (.ListComp elt' [⟨.Name x px, iter, [], 0⟩] scope pos) 0 (.ref I) (.ref Dl) (compEnvC scope cl C env))
      (compPost (model W.prog W.w) A F0 none (Post s P) (.ref Dl) C) { s with heap := h₁, toks := tk } := by
    intro tk
    refine codeAny_compLoop_list (fun k s' => ∃ (h : Heap) (t : Nat) (m : Str → Option Value) (done : List D) (i : Nat) (ys : Array Value), s' = { s with heap := h, toks := t } ∧ i + k = L.length ∧ St i h ∧ h.Ns C m ∧ h.IsList Dl ys ∧ Rps h ys.toList done ∧ noLsts done = true ∧ done.length = i ∧ Ext s.heap h ∧
      wpEach f (L.drop i) (fun rs => P (.list (done ++ rs)))) ?_ L.length ⟨h₁, tk, _, [], 0, #[], rfl, by omega, hst₁, hns₁, hacc, .nil, rfl, rfl, fun b o e => old b o (ext b o e), by simpa using hP⟩
    rintro k s' ⟨h, t, m, done, i, ys, rfl, hik, hSt, hN, hD, hR, hnl, hdl, hE, hW⟩
    by_cases hi : i < L.length
    · refine Wk.item i _ _ _ hi hSt ?_
      intro v h' tk' hv hSt' hk
      obtain ⟨d, hd, hrv⟩ := hPp i v hi hv
      have hwr : ∀ b ∈ wr, b ≠ Dl ∧ b ≠ C := fun b hb => hfpD b (Wk.sub b hb)
      have hE' : Ext s.heap h' := fun b o e => hk b o (fun hb => by rw [hfr b hb] at e; cases e) (hE b o e)
      have hN' : h'.Ns C m := let ⟨o, es, ep, e, r⟩ := hN; ⟨o, es, ep, hk _ _ (fun hb => (hwr _ hb).2 rfl) e, r⟩
      have hD' : h'.IsList Dl ys := let ⟨o, e, r⟩ := hD; ⟨o, hk _ _ (fun hb => (hwr _ hb).1 rfl) e, r⟩
      have hS' : SeqExt h h' := fun b o vs q e dd => hk b o (fun hb => hsq i h hSt b hb o vs q e dd) e
      refine wpAny_assign_Name (wpAny_storeName_local (by rw [Env.kindOf, hrel C, compNames_lookup, hx]; rfl) hN' (fun h'' hn'' hs'' => ?_) (by show (scope.kind == .class || (scope.kind == .module && _)) = false; rw [hkind]; rfl))
      have hb'' : ∀ b o, b ≠ C → h'.get? b = some o → h''.get? b = some o := fun b o q e => hs''.extBut b o q e
      have hS'' : SeqExt h' h'' := seqExt_but (b := C) hb'' (ns_notSeq hN')
      have hE'' : Ext s.heap h'' := fun b o e => hb'' b o (neC b o e) (hE' b o e)
      have hSt'' : St (i + 1) h'' := Wk.frame _ _ _ hSt' fun b hb o e => hb'' b o (hfpD b hb).2 e
      have hD'' : h''.IsList Dl ys := let ⟨o, e, r⟩ := hD'; ⟨o, hb'' _ _ hDC e, r⟩
      have hR'' : Rps h'' ys.toList done := (hR.seq hS').seq hS''
      have hdrop : L.drop i = d :: L.drop (i + 1) := by
        have := List.drop_eq_getElem_cons hi
        rw [this]
        have e2 : L[i]? = some L[i] := List.getElem?_eq_getElem hi
        rw [e2] at hd
        cases hd; rfl
      rw [hdrop] at hW
      have hF'' : Fro (x :: ns) (compEnvC scope cl C env) h'' (some d :: ρ) := by
        obtain ⟨mo, _, hvo⟩ := F
        refine ⟨_, hn'', ?_⟩
        intro j y dj hj hρ hloc
        cases j with
        | zero =>
          simp only [List.getElem?_cons_zero, Option.some.injEq] at hj hρ
          subst hj
          subst hρ
          refine ⟨v, ?_, hrv _⟩
          unfold VarAt
          have : (compEnvC scope cl C env).scope.names.lookup x = some .local := by rw [hrel C, compNames_lookup, hx]; rfl
          rw [this]
          simp
        | succ j =>
          simp only [List.getElem?_cons_succ] at hj hρ
          have hny : scope.names.lookup y ≠ some .local := by
            have := List.all_eq_true.mp hns y (List.mem_of_getElem? hj)
            simpa [bne] using this
          have hycell : (compEnvC scope cl C env).scope.names.lookup y = some .cell := by
            have hl2 := (debug_of hloc).2
            rw [hrel C, compNames_lookup] at hl2 ⊢
            cases q : scope.names.lookup y with
            | none => rw [q] at hl2; cases hl2
            | some kk =>
              rw [q] at hl2
              cases kk with
              | «local» => exact absurd q hny
              | cell => exact absurd rfl (hcell _ (mem_lookup _ _ _ q))
              | free =>
                have : env.scope.names.lookup y = some .cell := by
                  rcases (hall _ (mem_lookup _ _ _ q)).2 with z | z
                  · exact absurd rfl z
                  · exact z
                simp [this]
              | globalExplicit => cases hl2
              | globalImplicit => cases hl2
          obtain ⟨e1, e2⟩ := hce C y hycell
          have hlo : isLoc env.scope.names y = true := by
            have hd9 := (debug_of hloc).1
            unfold isLoc
            rw [e2]
            simp only [Bool.and_true]
            unfold bne
            rw [hd9]; rfl
          obtain ⟨vv, hva, hrr⟩ := hvo j y dj hj hρ hlo
          refine ⟨vv, ?_, hrr.ext hE''⟩
          unfold VarAt at hva ⊢
          rw [e2] at hva
          rw [hycell]
          obtain ⟨c, hc1, hc2⟩ := hva
          exact ⟨c, by show cl.lookup y = some c; rw [hcl y (mem_lookup _ _ _ e1), hc1], hc2.keeps hE''⟩
      refine wpF (wpAny_mono (helt d cl C _ _ (HC C) (hrel C) hF'' (G.ext hE'') hW) (fun y s₃ h₃ => ?_) fun _ _ e => e)
      obtain ⟨h3, t3, r, rfl, e3, hry, hnr, hW'⟩ := h₃
      have hD3 : h3.IsList Dl ys := let ⟨o, e, r⟩ := hD''; ⟨o, e3 _ _ e, r⟩
      have hR3 : Rps h3 ys.toList done := hR''.ext e3
      have hlen := hR3.length
      refine wpAny_list_append hD3 (fun h4 hD4 hs4 => ?_) (by rw [sizeLine_eq]; have : ys.size = done.length := by rw [← hlen]; simp
                                                              omega)
      have hb4 : ∀ b o, b ≠ Dl → h3.get? b = some o → h4.get? b = some o := fun b o q e => hs4.extBut b o q e
      have htup : ∀ b o, h3.get? b = some o → o.cls = .type "tuple" → h4.get? b = some o := fun b o e ec => by
        refine hb4 b o (fun q => ?_) e
        obtain ⟨o', e', c', _⟩ := hD3
        rw [q, e'] at e
        cases e
        rw [c'] at ec
        exact absurd ec (by decide)
      have hN4 : h4.Ns C (fun z => if z = x then some v else m z) := by
        obtain ⟨o, es, ep, e, rr⟩ := hn''
        exact ⟨o, es, ep, hb4 _ _ (Ne.symm hDC) (e3 _ _ e), rr⟩
      refine ⟨k - 1, by omega, h4, t3, _, done ++ [r], i + 1, ys.push y, rfl, by omega, Wk.frame _ _ _ hSt'' fun b hb o e => hb4 b o (hfpD b hb).1 (e3 b o e), hN4, hD4, ?_, noLsts_append hnl (by simp [noLsts, hnr]), by simp [hdl], fun b o e => hb4 b o (neD b o e) (e3 b o (hE'' b o e)), ?_⟩
      · rw [Array.toList_push]
        exact Rps.append (Rps.noL htup hnl hR3) (.cons (Rp.noL htup hnr hry) .nil)
      · simpa [List.append_assoc] using hW'
    · have hiL : i = L.length := by omega
      subst hiL
      refine Wk.done _ _ _ hSt ?_
      intro h' tk' hk
      have hwr : ∀ b ∈ wr, b ≠ Dl ∧ b ≠ C := fun b hb => hfpD b (Wk.sub b hb)
      have hE' : Ext s.heap h' := fun b o e => hk b o (fun hb => by rw [hfr b hb] at e; cases e) (hE b o e)
      have hN' : h'.Ns C m := let ⟨o, es, ep, e, r⟩ := hN; ⟨o, es, ep, hk _ _ (fun hb => (hwr _ hb).2 rfl) e, r⟩
      have hD' : h'.IsList Dl ys := let ⟨o, e, r⟩ := hD; ⟨o, hk _ _ (fun hb => (hwr _ hb).1 rfl) e, r⟩
      have hS' : SeqExt h h' := fun b o vs q e dd => hk b o (fun hb => hsq _ h hSt b hb o vs q e dd) e
      refine ⟨m, hN', fun h'' hs'' => ?_⟩
      have hb'' : ∀ b o, b ≠ C → h'.get? b = some o → h''.get? b = some o := fun b o q e => hs''.extBut b o q e
      have hS'' : SeqExt h' h'' := seqExt_but (b := C) hb'' (ns_notSeq hN')
      obtain ⟨o, e, ec, q, ed⟩ := hD'
      rw [List.drop_length] at hW
      have hW2 : P (.list done) := by simpa [wpEach] using hW
      exact Post.mk (s := s) (fun b o e => hb'' b o (neC b o e) (hE' b o e)) (.lst (hb'' _ _ hDC e) ec ed ((hR.seq hS').seq hS'')) hW2
  exact codeAny_compStart_list (loop _) (Wk.self 0 _ _ _ hst₁ (loop _))
end
end Mine

end

section
open PySem PySem.Calls
set_option maxRecDepth 100000
set_option linter.unusedVariables false
namespace Mine
open PySem.W (Frag nsIn mg_of mg_none_of)

section
variable {W : Wd} {A : Around} {s : Shared} {env : Env} {n : Nat} {ns : List Str} {P : D → Prop} {ρ : Rho}

def IterOf (W : Wd) (A : Around) (s : Shared) (L : List D) : Value → Shared → Prop := fun it s₂ => ∃ I fp wr Pp St h tk, s₂ = { s with heap := h, toks := tk } ∧ it = .ref I ∧ Walks W.prog W.w A I fp wr L.length Pp St ∧ St 0 h ∧
      (∀ b ∈ fp, b < h.objs.size) ∧ Ext s.heap h ∧ (∀ b ∈ wr, s.heap.get? b = none) ∧ (∀ i h, St i h → ∀ b ∈ wr, ∀ o vs m, h.get? b = some o → o.data ≠ .seq vs m) ∧ ∀ i v, i < L.length → Pp i v → ∃ d, L[i]? = some d ∧ ∀ h', Rp h' v d

theorem get_none {h : Heap} {b : Addr} (e : h.objs.size ≤ b) : h.get? b = none := by
  cases q : h.get? b with
  | none => rfl
  | some o => exact absurd (Heap.lt_size q) (Nat.not_lt.mpr e)

theorem text_iter {x : Str} {k : Nat} {pos : Pos} (R : Room n A) (ha : x.cps.all (· < 128) = true) :
    wpAny (model W.prog W.w) A (eval (.Constant (.str x) k pos) env) (fun xv s₁ => wpAny (model W.prog W.w) A (pyIter xv) (IterOf W A s (srcD (.text x))) F0 s₁) F0 s := by
  refine Constant_str (wpAny_pyIter_ascii ha ?_)
  have hlen : (srcD (.text x)).length = x.cps.size := by simp [srcD]
  refine ⟨s.heap.objs.size, [s.heap.objs.size], [s.heap.objs.size], SignAt x, _, _, _, rfl, rfl, hlen ▸ Walks.strAscii R.hh _ x s.toks, ⟨_, Heap.get?_push_size _ rfl, rfl, rfl⟩, ?_, Ext.push _ _, ?_, ?_, ?_⟩
  · intro b hb
    rw [Heap.size_push]
    rcases List.mem_cons.mp hb with rfl | hb
    · exact Nat.lt_succ_self _
    · cases hb
  · intro b hb
    rcases List.mem_cons.mp hb with rfl | hb
    · exact get_none (Nat.le_refl _)
    · cases hb
  · intro i h st b hb o vs m e d
    rcases List.mem_cons.mp hb with rfl | hb
    · obtain ⟨o', e', _, d'⟩ := st
      rw [e'] at e
      cases e
      rw [d'] at d
      cases d
    · cases hb
  · intro i v _ hv
    obtain ⟨c, u, hc, rfl⟩ := hv
    refine ⟨.str ⟨#[c]⟩, ?_, fun h => .str _ _⟩
    simp [srcD, hc]

theorem range_iter {g : Str} {gp pos cp : Pos} {k : Nat} {c : Nat} (R : Room n A) (H : EnvOK env) (hg : g = ("range" : Str)) (G : Gd W s.heap) (h1 : isB W.K env.scope.names g = true) (hk : k < 100) :
    wpAny (model W.prog W.w) A (eval (.Call (.Name g gp) [.Constant (.int (k : Int)) c cp] [] pos) env) (fun xv s₁ => wpAny (model W.prog W.w) A (pyIter xv) (IterOf W A s (srcD (.range k))) F0 s₁) F0 s := by
  subst hg
  refine wpAny_Call_NameR (nameB G H h1 PyProof.Rows.Boot.«range» (by decide) ?_)
  rw [starEach_cons (by rfl)]
  refine PyProof.Rows.callWith_type rfl (evalArgs_plain (spliced_cons (wpAny_Constant_int (k := c) (pos := cp) (spliced_nil ?_))))
  refine call_range_1 ?_
  refine wpAny_pyIter_range (IsRange.new ..) (small_one (by decide) (by decide) (by omega) (by omega)) ?_
  have hsz : Builtin.Range.rangeSize 0 (k : Int) 1 = (k : Int) := by rw [rangeSize_one]; split <;> omega
  have hlen : (srcD (.range k)).length = k := by simp [srcD]
  rw [hsz]
  generalize hh1 : s.heap.push { cls := .type "range", data := .fields #[.int 0 (s.toks + 1), .int (k : Int) s.toks, .int 1 (s.toks + 1 + 1)] } = h1
  have hsz1 : h1.objs.size = s.heap.objs.size + 1 := by rw [← hh1, Heap.size_push]
  refine ⟨h1.objs.size, [h1.objs.size], [h1.objs.size], fun i v => ∃ t, v = .int (0 + i * 1) t, fun i h => IsRangeIter h h1.objs.size (0 + (i : Nat) * 1) ((k : Int) - (i : Nat)) 1, _, _, rfl, rfl, by rw [hlen]; exact Walks.range R.hh _ 0 1 k, ?_, ?_, ?_, ?_, ?_, ?_⟩
  · show IsRangeIter _ _ _ _ _
    have : IsRangeIter (h1.push { cls := .type "range_iterator", data := .fields #[rawInt 0, rawInt (k : Int), rawInt 1] }) h1.objs.size 0 (k : Int) 1 := Heap.get?_push_size _ rfl
    simpa using this
  · intro b hb
    show b < (h1.push _).objs.size
    rw [Heap.size_push]
    rcases List.mem_cons.mp hb with rfl | hb
    · exact Nat.lt_succ_self _
    · cases hb
  · exact fun b o e => Heap.get?_push_of_some _ (by rw [← hh1]; exact Heap.get?_push_of_some _ e)
  · intro b hb
    rcases List.mem_cons.mp hb with rfl | hb
    · exact get_none (by rw [hsz1]; exact Nat.le_succ _)
    · cases hb
  · intro i h st b hb o vs m e d
    rcases List.mem_cons.mp hb with rfl | hb
    · have st' : h.get? h1.objs.size = _ := st
      rw [st'] at e
      cases e
      cases d
    · cases hb
  · intro i v hi hv
    obtain ⟨t, rfl⟩ := hv
    rw [hlen] at hi
    refine ⟨.int (Int.ofNat i), ?_, fun h => ?_⟩
    · simp [srcD, hi]
    · have : (0 + (i : Int) * 1) = Int.ofNat i := by simp
      rw [this]
      exact .int _ _
end
end Mine

end

section
open PySem PySem.Calls
set_option maxRecDepth 100000
set_option linter.unusedVariables false
namespace Mine
open PySem.W (Frag nsIn mg_of mg_none_of)

theorem optP_of {α : Type} {o : Option α} {P : α → Prop} (h : optP o P) : ∃ a, o = some a ∧ P a := by
  cases o with
  | none => exact h.elim
  | some a => exact ⟨a, rfl, h⟩
theorem wpTr_of {d : D} {P : Bool → Prop} (h : wpTr d P) : ∃ b, truthD d = some b ∧ P b := by
  unfold wpTr at h
  split at h
  · rename_i b e; exact ⟨b, e, h⟩
  · exact h.elim
theorem notSet_marks {op : CmpOp} {e : Expr} (h : notSet e = true) : behindInMarks op e = false := by
  cases e <;> first | rfl | cases h
theorem cmpOp_beq {a b : CmpOp} (h : (a == b) = true) : a = b := beq_iff_eq.mp h

theorem wpBin_mono {op : Operator} {a b : D} {P P' : D → Prop} (h : ∀ d, P d → P' d) : wpBin op a b P → wpBin op a b P' := by
  unfold wpBin
  split <;> first | exact h _ | exact fun q => ⟨q.1, h _ q.2⟩ | exact id
theorem optP_mono {α : Type} {o : Option α} {P P' : α → Prop} (h : ∀ d, P d → P' d) : optP o P → optP o P' := by
  cases o with
  | none => exact id
  | some a => exact h a
theorem wpTr_mono {d : D} {P P' : Bool → Prop} (h : ∀ b, truthD d = some b → P b → P' b) : wpTr d P → wpTr d P' := by
  intro q
  obtain ⟨b, hb, q⟩ := wpTr_of q
  unfold wpTr
  rw [hb]
  exact h b hb q
theorem wpEach_mono {f : D → (D → Prop) → Prop} (hf : ∀ d {Q Q' : D → Prop}, (∀ r, Q r → Q' r) → f d Q → f d Q') : ∀ (l : List D) {P P' : List D → Prop}, (∀ d, P d → P' d) → wpEach f l P → wpEach f l P'
  | [], _, _, h, q => h _ q
  | d :: l, _, _, h, q => hf d (fun r p => ⟨p.1, wpEach_mono hf l (fun rs => h _) p.2⟩) q
mutual
theorem wpE_mono {ok : Str → List D → D → Prop} : ∀ (me : ME) {ρ : Rho} {P P' : D → Prop}, (∀ d, P d → P' d) → wpE ok ρ me P → wpE ok ρ me P'
  | .loc i, ρ, P, P', h, q => by
    unfold wpE at q ⊢
    split at q
    · exact h _ q
    · exact q.elim
  | .gint _ _, ρ, P, P', h, q => by unfold wpE at q ⊢; exact h _ q
  | .gstr _ _, ρ, P, P', h, q => by unfold wpE at q ⊢; exact h _ q
  | .gtup _ _, ρ, P, P', h, q => by unfold wpE at q ⊢; exact h _ q
  | .int _, ρ, P, P', h, q => by unfold wpE at q ⊢; exact h _ q
  | .str _, ρ, P, P', h, q => by unfold wpE at q ⊢; exact h _ q
  | .bool _, ρ, P, P', h, q => by unfold wpE at q ⊢; exact h _ q
  | .bin op l r, ρ, P, P', h, q => by unfold wpE at q ⊢; exact wpE_mono l (fun a => wpE_mono r fun b => wpBin_mono h) q
  | .neg e, ρ, P, P', h, q => by
    unfold wpE at q ⊢
    refine wpE_mono e (fun a p => ?_) q
    split at p
    · exact h _ p
    · exact p.elim
  | .not e, ρ, P, P', h, q => by unfold wpE at q ⊢; exact wpE_mono e (fun a => wpTr_mono fun b _ => h _) q
  | .and l r, ρ, P, P', h, q => by unfold wpE at q ⊢; exact wpE_mono l (fun a => wpTr_mono fun b _ p => ⟨fun e => wpE_mono r h (p.1 e), fun e => h _ (p.2 e)⟩) q
  | .or l r, ρ, P, P', h, q => by unfold wpE at q ⊢; exact wpE_mono l (fun a => wpTr_mono fun b _ p => ⟨fun e => h _ (p.1 e), fun e => wpE_mono r h (p.2 e)⟩) q
  | .cmp op l r, ρ, P, P', h, q => by unfold wpE at q ⊢; exact wpE_mono l (fun a => wpE_mono r fun b => optP_mono fun c => h _) q
  | .ife c t f, ρ, P, P', h, q => by unfold wpE at q ⊢; exact wpE_mono c (fun a => wpTr_mono fun b _ p => ⟨fun e => wpE_mono t h (p.1 e), fun e => wpE_mono f h (p.2 e)⟩) q
  | .tup es, ρ, P, P', h, q => by unfold wpE at q ⊢; exact wpEs_mono es (fun ds => h _) q
  | .lst es, ρ, P, P', h, q => by unfold wpE at q ⊢; exact wpEs_mono es (fun ds => h _) q
  | .item e i, ρ, P, P', h, q => by unfold wpE at q ⊢; exact wpE_mono e (fun a => wpE_mono i fun b => optP_mono h) q
  | .shd e, ρ, P, P', h, q => by unfold wpE at q ⊢; exact wpE_mono e (fun a => optP_mono h) q
  | .call f es, ρ, P, P', h, q => by unfold wpE at q ⊢; exact wpEs_mono es (fun ds ⟨d, a, b⟩ => ⟨d, a, h _ b⟩) q
  | .bl e, ρ, P, P', h, q => by
    unfold wpE at q ⊢
    refine wpE_mono e (fun a p => ?_) q
    split at p
    · exact h _ p
    · exact p.elim
  | .isInt e, ρ, P, P', h, q => by
    unfold wpE at q ⊢
    refine wpE_mono e (fun a p => ?_) q
    split at p
    · exact h _ p
    · exact p.elim
  | .toInt e, ρ, P, P', h, q => by
    unfold wpE at q ⊢
    refine wpE_mono e (fun a p => ?_) q
    split at p
    · exact h _ p
    · exact p.elim
  | .dvm a b, ρ, P, P', h, q => by
    unfold wpE at q ⊢
    refine wpE_mono a (fun a => wpE_mono b fun b p => ?_) q
    split at p
    · exact ⟨p.1, h _ p.2⟩
    · exact p.elim
  | .mx a b, ρ, P, P', h, q => by
    unfold wpE at q ⊢
    refine wpE_mono a (fun a => wpE_mono b fun b p => ?_) q
    split at p
    · exact h _ p
    · exact p.elim
  | .len e, ρ, P, P', h, q => by
    unfold wpE at q ⊢
    refine wpE_mono e (fun a p => ?_) q
    split at p
    · exact ⟨p.1, h _ p.2⟩
    · exact p.elim
  | .all e, ρ, P, P', h, q => by
    unfold wpE at q ⊢
    refine wpE_mono e (fun a p => ?_) q
    split at p
    · exact optP_mono (fun b => h _) p
    · exact p.elim
  | .comp src x elt, ρ, P, P', h, q => by
    unfold wpE at q ⊢
    exact wpEach_mono (f := fun d k => wpE ok (some d :: ρ) elt k) (fun d Q Q' hq => wpE_mono elt hq) (srcD src) (fun ds => h (.list ds)) q
  | .bad, ρ, P, P', h, q => by unfold wpE at q; exact q.elim
theorem wpEs_mono {ok : Str → List D → D → Prop} : ∀ (es : List ME) {ρ : Rho} {P P' : List D → Prop}, (∀ d, P d → P' d) → wpEs ok ρ es P → wpEs ok ρ es P'
  | [], ρ, P, P', h, q => by unfold wpEs at q ⊢; exact h _ q
  | e :: es, ρ, P, P', h, q => by unfold wpEs at q ⊢; exact wpE_mono e (fun d => wpEs_mono es fun ds => h _) q
end
theorem hasFn {K : Frag} {f : Str} (h : fnIn K f = true) : ∃ fa o fd, nsIn K mainGlobals f = some (some (.ref fa)) ∧ K.lookup fa = some o ∧ o.data = .func fd := by
  unfold fnIn at h
  split at h
  · rename_i a e
    split at h
    · rename_i e2; exact ⟨a, _, _, e, e2, rfl⟩
    · cases h
  · cases h

section
variable {W : Wd} {A : Around} {n : Nat}

abbrev EvalOK (W : Wd) (A : Around) (n : Nat) (me : ME) : Prop := ∀ {env : Env} {ns : List Str} {ρ : Rho} {P : D → Prop} {s : Shared} {e : Expr}, EnvOK env → mE W.K env.scope.names ns me e = true → Fro ns env s.heap ρ → Gd W s.heap → wpE (Ok W n) ρ me P →
    wpAny (model W.prog W.w) A (eval e env) (Post s P) F0 s
abbrev TestOK (W : Wd) (A : Around) (n : Nat) (me : ME) : Prop := ∀ {env : Env} {ns : List Str} {ρ : Rho} {Q : Bool → Prop} {s : Shared} {e : Expr}, EnvOK env → mE W.K env.scope.names ns me e = true → Fro ns env s.heap ρ → Gd W s.heap → wpE (Ok W n) ρ me (fun d => wpTr d Q) →
    wpAny (model W.prog W.w) A (isTrue e env (eval e env)) (fun b s' => ∃ h tk, s' = { s with heap := h, toks := tk } ∧ Ext s.heap h ∧ Q b) F0 s
theorem test_plain {me : ME} (hp : ∀ nm ns e, mE W.K nm ns me e = true → ∀ env, isTrue e env (eval e env) = (do let v ← eval e env; standAt e.pos; holding [v] (truthy v))) (ev : EvalOK W A n me) : TestOK W A n me := by
  intro env ns ρ Q s e H hm F G h
  refine PyProof.Rows.isTrue_plain (wpAny_mono (ev H hm F G h) (fun v s₁ h₁ => ?_) fun _ _ x => x) (hp _ _ _ hm env)
  obtain ⟨h1, t1, da, rfl, x1, r1, h⟩ := h₁
  obtain ⟨b, hb, h⟩ := wpTr_of h
  exact truthy_sound r1 hb ⟨h1, t1, rfl, x1, h⟩

mutual
theorem sB (S : ShdAt W) (R : Room n A) : ∀ (me : ME), EvalOK W A n me ∧ TestOK W A n me
  | .loc i => by
    have ev : EvalOK W A n (.loc i) := by
      intro env ns ρ P s e H hm F G h
      unfold mE at hm
      split at hm
      · rename_i x pos
        simp only [Bool.and_eq_true, beq_iff_eq] at hm
        unfold wpE at h
        split at h
        · rename_i d hd
          obtain ⟨m, hn, hv⟩ := F
          obtain ⟨v, q, r⟩ := hv i x d hm.1 hd hm.2
          exact nameLoc hm.2 H hn q (Post.here r h)
        · exact h.elim
      · cases hm
    exact ⟨ev, test_plain (fun nm ns e hm env => by unfold mE at hm; split at hm <;> first | rfl | cases hm) ev⟩
  | .gint x i => by
    have ev : EvalOK W A n (.gint x i) := by
      intro env ns ρ P s e H hm F G h
      unfold mE at hm
      split at hm
      · simp only [Bool.and_eq_true, beq_iff_eq] at hm
        obtain ⟨v, q, r⟩ := gloI_of hm.2
        rw [← hm.1.1]
        exact nameGlo G H hm.1.2 q (Post.here (r _) h)
      · cases hm
    exact ⟨ev, test_plain (fun nm ns e hm env => by unfold mE at hm; split at hm <;> first | rfl | cases hm) ev⟩
  | .gstr x i => by
    have ev : EvalOK W A n (.gstr x i) := by
      intro env ns ρ P s e H hm F G h
      unfold mE at hm
      split at hm
      · simp only [Bool.and_eq_true, beq_iff_eq] at hm
        obtain ⟨v, q, r⟩ := gloS_of hm.2
        rw [← hm.1.1]
        exact nameGlo G H hm.1.2 q (Post.here (r _) h)
      · cases hm
    exact ⟨ev, test_plain (fun nm ns e hm env => by unfold mE at hm; split at hm <;> first | rfl | cases hm) ev⟩
  | .gtup x i => by
    have ev : EvalOK W A n (.gtup x i) := by
      intro env ns ρ P s e H hm F G h
      unfold mE at hm
      split at hm
      · simp only [Bool.and_eq_true, beq_iff_eq] at hm
        obtain ⟨v, q, r⟩ := gloT_of hm.2
        rw [← hm.1.1]
        exact nameGlo G H hm.1.2 q (Post.here (r _ G.X) h)
      · cases hm
    exact ⟨ev, test_plain (fun nm ns e hm env => by unfold mE at hm; split at hm <;> first | rfl | cases hm) ev⟩
  | .int i => by
    have ev : EvalOK W A n (.int i) := by
      intro env ns ρ P s e H hm F G h
      unfold mE at hm
      split at hm
      · obtain rfl := beq_iff_eq.mp hm
        exact wpAny_Constant_int (Post.int h)
      · cases hm
    exact ⟨ev, test_plain (fun nm ns e hm env => by unfold mE at hm; split at hm <;> first | rfl | cases hm) ev⟩
  | .str i => by
    have ev : EvalOK W A n (.str i) := by
      intro env ns ρ P s e H hm F G h
      unfold mE at hm
      split at hm
      · obtain rfl := beq_iff_eq.mp hm
        exact Constant_str (Post.mk (s := s) (Ext.refl _) (.str _ _) h)
      · cases hm
    exact ⟨ev, test_plain (fun nm ns e hm env => by unfold mE at hm; split at hm <;> first | rfl | cases hm) ev⟩
  | .bool i => by
    have ev : EvalOK W A n (.bool i) := by
      intro env ns ρ P s e H hm F G h
      unfold mE at hm
      split at hm
      · obtain rfl := beq_iff_eq.mp hm
        exact PyProof.Rows.Constant_bool (Post.bool h)
      · cases hm
    exact ⟨ev, test_plain (fun nm ns e hm env => by unfold mE at hm; split at hm <;> first | rfl | cases hm) ev⟩
  | .bin op l r => by
    have ev : EvalOK W A n (.bin op l r) := by
      intro env ns ρ P s e H hm F G h
      unfold mE at hm
      split at hm
      · simp only [Bool.and_eq_true, beq_iff_eq] at hm
        obtain ⟨⟨e1, e2⟩, e3⟩ := hm
        subst e1
        unfold wpE at h
        refine wpAny_BinOp (wpAny_mono ((sB S R l).1 H e2 F G h) (fun a s₁ h₁ => ?_) fun _ _ x => x)
        obtain ⟨h1, t1, da, rfl, x1, r1, h⟩ := h₁
        refine wpAny_mono ((sB S R r).1 (s := { s with heap := h1, toks := t1 }) H e3 (F.ext x1) (G.ext x1) h) (fun b s₂ h₂ => ?_) fun _ _ x => x
        obtain ⟨h2, t2, db, rfl, x2, r2, h⟩ := h₂
        exact wpAny_mono (wpBin_sound (s := { s with heap := h2, toks := t2 }) (r1.ext x2) r2 h) (fun v s₃ q => Post.back (x1.trans x2) q) fun _ _ x => x
      · cases hm
    exact ⟨ev, test_plain (fun nm ns e hm env => by unfold mE at hm; split at hm <;> first | rfl | cases hm) ev⟩
  | .neg x => by
    have ev : EvalOK W A n (.neg x) := by
      intro env ns ρ P s e H hm F G h
      unfold mE at hm
      split at hm
      · unfold wpE at h
        refine PyProof.Rows.UnaryOp_ (wpAny_mono ((sB S R x).1 H hm F G h) (fun a s₁ h₁ => ?_) fun _ _ x => x)
        obtain ⟨h1, t1, da, rfl, x1, r1, h⟩ := h₁
        split at h
        · exact wpAny_mono (neg_sound (s := { s with heap := h1, toks := t1 }) r1 h) (fun v s₃ q => Post.back x1 q) fun _ _ x => x
        · exact h.elim
      · cases hm
    exact ⟨ev, test_plain (fun nm ns e hm env => by unfold mE at hm; split at hm <;> first | rfl | cases hm) ev⟩
  | .not x => by
    have ev : EvalOK W A n (.not x) := by
      intro env ns ρ P s e H hm F G h
      unfold mE at hm
      split at hm
      · unfold wpE at h
        refine PyProof.Rows.UnaryOp_ (wpAny_mono ((sB S R x).1 H hm F G h) (fun a s₁ h₁ => ?_) fun _ _ x => x)
        obtain ⟨h1, t1, da, rfl, x1, r1, h⟩ := h₁
        obtain ⟨b, hb, h⟩ := wpTr_of h
        exact wpAny_mono (not_sound (s := { s with heap := h1, toks := t1 }) r1 hb h) (fun v s₃ q => Post.back x1 q) fun _ _ x => x
      · cases hm
    refine ⟨ev, fun {env ns ρ Q s e} H hm F G h => ?_⟩
    unfold mE at hm
    split at hm
    · unfold wpE at h
      refine PyProof.Rows.isTrue_not (wpAny_mono ((sB S R x).2 (Q := fun b => Q (!b)) H hm F G (by
        have e9 : (fun a => wpTr a fun b => wpTr (.bool (!b)) Q) = fun a => wpTr a fun b => Q (!b) := by
          funext a; rfl
        rw [← e9]; exact h)) (fun b s₁ h₁ => h₁) fun _ _ x => x)
    · cases hm
  | .and l r => by
    have ev : EvalOK W A n (.and l r) := by
      intro env ns ρ P s e H hm F G h
      unfold mE at hm
      split at hm
      · simp only [Bool.and_eq_true] at hm
        unfold wpE at h
        refine PyProof.Rows.BoolOp_and (wpAny_mono ((sB S R l).1 H hm.1 F G h) (fun a s₁ h₁ => ?_) fun _ _ x => x)
        obtain ⟨h1, t1, da, rfl, x1, r1, h⟩ := h₁
        obtain ⟨b, hb, h⟩ := wpTr_of h
        refine truthy_sound r1 hb ?_
        cases b with
        | true => exact PyProof.Rows.BoolOp_one (wpAny_mono ((sB S R r).1 (s := { s with heap := h1, toks := t1 }) H hm.2 (F.ext x1) (G.ext x1) (h.1 rfl)) (fun v s₃ q => Post.back x1 q) fun _ _ x => x)
        | false => exact Post.mk (s := s) x1 r1 (h.2 rfl)
      · cases hm
    refine ⟨ev, fun {env ns ρ Q s e} H hm F G h => ?_⟩
    unfold mE at hm
    split at hm
    · simp only [Bool.and_eq_true] at hm
      unfold wpE at h
      refine PyProof.Rows.isTrue_and (wpAny_mono ((sB S R l).2 (Q := fun b => (b = true → wpE (Ok W n) ρ r fun d => wpTr d Q) ∧ (b = false → Q false)) H hm.1 F G (wpE_mono l (fun a ha => ?_) h)) (fun b s₁ h₁ => ?_) fun _ _ x => x)
      · obtain ⟨b, hb, h1, h2⟩ := wpTr_of ha
        unfold wpTr
        rw [hb]
        refine ⟨h1, fun e => ?_⟩
        have h3 := h2 e
        dsimp only at h3
        unfold wpTr at h3
        rw [hb, e] at h3
        exact h3
      · obtain ⟨h1, t1, rfl, x1, h⟩ := h₁
        cases b with
        | true =>
          refine PyProof.Rows.isTrue_and (wpAny_mono ((sB S R r).2 (Q := Q) (s := { s with heap := h1, toks := t1 }) H hm.2 (F.ext x1) (G.ext x1) (h.1 rfl)) (fun b s₂ h₂ => ?_) fun _ _ x => x)
          obtain ⟨h2, t2, rfl, x2, h⟩ := h₂
          cases b with
          | true => exact PyProof.Rows.isTrue_and_nil ⟨h2, t2, rfl, x1.trans x2, h⟩
          | false => exact ⟨h2, t2, rfl, x1.trans x2, h⟩
        | false => exact ⟨h1, t1, rfl, x1, h.2 rfl⟩
    · cases hm
  | .or l r => by
    have ev : EvalOK W A n (.or l r) := by
      intro env ns ρ P s e H hm F G h
      unfold mE at hm
      split at hm
      · simp only [Bool.and_eq_true] at hm
        unfold wpE at h
        refine PyProof.Rows.BoolOp_or (wpAny_mono ((sB S R l).1 H hm.1 F G h) (fun a s₁ h₁ => ?_) fun _ _ x => x)
        obtain ⟨h1, t1, da, rfl, x1, r1, h⟩ := h₁
        obtain ⟨b, hb, h⟩ := wpTr_of h
        refine truthy_sound r1 hb ?_
        cases b with
        | false => exact PyProof.Rows.BoolOp_one (wpAny_mono ((sB S R r).1 (s := { s with heap := h1, toks := t1 }) H hm.2 (F.ext x1) (G.ext x1) (h.2 rfl)) (fun v s₃ q => Post.back x1 q) fun _ _ x => x)
        | true => exact Post.mk (s := s) x1 r1 (h.1 rfl)
      · cases hm
    refine ⟨ev, fun {env ns ρ Q s e} H hm F G h => ?_⟩
    unfold mE at hm
    split at hm
    · simp only [Bool.and_eq_true] at hm
      unfold wpE at h
      refine PyProof.Rows.isTrue_or (wpAny_mono ((sB S R l).2 (Q := fun b => (b = true → Q true) ∧ (b = false → wpE (Ok W n) ρ r fun d => wpTr d Q)) H hm.1 F G (wpE_mono l (fun a ha => ?_) h)) (fun b s₁ h₁ => ?_) fun _ _ x => x)
      · obtain ⟨b, hb, h1, h2⟩ := wpTr_of ha
        unfold wpTr
        rw [hb]
        refine ⟨fun e => ?_, h2⟩
        have h3 := h1 e
        dsimp only at h3
        unfold wpTr at h3
        rw [hb, e] at h3
        exact h3
      · obtain ⟨h1, t1, rfl, x1, h⟩ := h₁
        cases b with
        | false =>
          refine PyProof.Rows.isTrue_or (wpAny_mono ((sB S R r).2 (Q := Q) (s := { s with heap := h1, toks := t1 }) H hm.2 (F.ext x1) (G.ext x1) (h.2 rfl)) (fun b s₂ h₂ => ?_) fun _ _ x => x)
          obtain ⟨h2, t2, rfl, x2, h⟩ := h₂
          cases b with
          | false => exact PyProof.Rows.isTrue_or_nil ⟨h2, t2, rfl, x1.trans x2, h⟩
          | true => exact ⟨h2, t2, rfl, x1.trans x2, h⟩
        | true => exact ⟨h1, t1, rfl, x1, h.1 rfl⟩
    · cases hm
  | .cmp op l r => by
    have ev : EvalOK W A n (.cmp op l r) := by
      intro env ns ρ P s e H hm F G h
      unfold mE at hm
      split at hm
      · simp only [Bool.and_eq_true, beq_iff_eq] at hm
        obtain ⟨⟨⟨e1, e2⟩, e3⟩, e4⟩ := hm
        subst e1
        unfold wpE at h
        refine wpAny_Compare1 (wpAny_mono ((sB S R l).1 H e2 F G h) (fun a s₁ h₁ => ?_) fun _ _ x => x) (notSet_marks e4)
        obtain ⟨h1, t1, da, rfl, x1, r1, h⟩ := h₁
        refine wpAny_mono ((sB S R r).1 (s := { s with heap := h1, toks := t1 }) H e3 (F.ext x1) (G.ext x1) h) (fun b s₂ h₂ => ?_) fun _ _ x => x
        obtain ⟨h2, t2, db, rfl, x2, r2, h⟩ := h₂
        obtain ⟨c, hc, h⟩ := optP_of h
        exact wpAny_mono (cmp_sound (s := { s with heap := h2, toks := t2 }) R (r1.ext x2) r2 hc h) (fun v s₃ q => Post.back (x1.trans x2) q) fun _ _ x => x
      · cases hm
    refine ⟨ev, fun {env ns ρ Q s e} H hm F G h => ?_⟩
    unfold mE at hm
    split at hm
    · simp only [Bool.and_eq_true, beq_iff_eq] at hm
      obtain ⟨⟨⟨e1, e2⟩, e3⟩, e4⟩ := hm
      subst e1
      unfold wpE at h
      refine wpAny_isTrue_Compare1 (wpAny_mono ((sB S R l).1 H e2 F G h) (fun a s₁ h₁ => ?_) fun _ _ x => x) (notSet_marks e4)
      obtain ⟨h1, t1, da, rfl, x1, r1, h⟩ := h₁
      refine wpAny_mono ((sB S R r).1 (s := { s with heap := h1, toks := t1 }) H e3 (F.ext x1) (G.ext x1) h) (fun b s₂ h₂ => ?_) fun _ _ x => x
      obtain ⟨h2, t2, db, rfl, x2, r2, h⟩ := h₂
      obtain ⟨c, hc, h⟩ := optP_of h
      refine wpAny_mono (cmp_sound (s := { s with heap := h2, toks := t2 }) (P := fun d => wpTr d Q) R (r1.ext x2) r2 hc h) (fun v s₃ q => ?_) fun _ _ x => x
      obtain ⟨h3, t3, dc, rfl, x3, r3, h⟩ := q
      obtain ⟨b, hb, h⟩ := wpTr_of h
      exact truthy_sound r3 hb ⟨h3, t3, rfl, (x1.trans x2).trans x3, h⟩
    · cases hm
  | .ife c t f => by
    have ev : EvalOK W A n (.ife c t f) := by
      intro env ns ρ P s e H hm F G h
      unfold mE at hm
      split at hm
      · simp only [Bool.and_eq_true] at hm
        unfold wpE at h
        refine PyProof.Rows.IfExp_ (wpAny_mono ((sB S R c).2 (Q := fun b => (b = true → wpE (Ok W n) ρ t P) ∧ (b = false → wpE (Ok W n) ρ f P)) H hm.1.1 F G h) (fun b s₁ h₁ => ?_) fun _ _ x => x)
        obtain ⟨h1, t1, rfl, x1, h⟩ := h₁
        cases b with
        | true => exact wpAny_mono ((sB S R t).1 (s := { s with heap := h1, toks := t1 }) H hm.1.2 (F.ext x1) (G.ext x1) (h.1 rfl)) (fun v s₃ q => Post.back x1 q) fun _ _ x => x
        | false => exact wpAny_mono ((sB S R f).1 (s := { s with heap := h1, toks := t1 }) H hm.2 (F.ext x1) (G.ext x1) (h.2 rfl)) (fun v s₃ q => Post.back x1 q) fun _ _ x => x
      · cases hm
    refine ⟨ev, fun {env ns ρ Q s e} H hm F G h => ?_⟩
    unfold mE at hm
    split at hm
    · simp only [Bool.and_eq_true] at hm
      unfold wpE at h
      refine PyProof.Rows.isTrue_IfExp (wpAny_mono ((sB S R c).2 (Q := fun b => (b = true → wpE (Ok W n) ρ t fun d => wpTr d Q) ∧ (b = false → wpE (Ok W n) ρ f fun d => wpTr d Q)) H hm.1.1 F G h) (fun b s₁ h₁ => ?_) fun _ _ x => x)
      obtain ⟨h1, t1, rfl, x1, h⟩ := h₁
      cases b with
      | true =>
        refine wpAny_mono ((sB S R t).2 (Q := Q) (s := { s with heap := h1, toks := t1 }) H hm.1.2 (F.ext x1) (G.ext x1) (h.1 rfl)) (fun b s₂ h₂ => ?_) fun _ _ x => x
        obtain ⟨h2, t2, rfl, x2, h⟩ := h₂
        exact ⟨h2, t2, rfl, x1.trans x2, h⟩
      | false =>
        refine wpAny_mono ((sB S R f).2 (Q := Q) (s := { s with heap := h1, toks := t1 }) H hm.2 (F.ext x1) (G.ext x1) (h.2 rfl)) (fun b s₂ h₂ => ?_) fun _ _ x => x
        obtain ⟨h2, t2, rfl, x2, h⟩ := h₂
        exact ⟨h2, t2, rfl, x1.trans x2, h⟩
    · cases hm
  | .tup es => by
    have ev : EvalOK W A n (.tup es) := by
      intro env ns ρ P s e H hm F G h
      unfold mE at hm
      split at hm
      · simp only [Bool.and_eq_true, decide_eq_true_eq] at hm
        unfold wpE at h
        refine PyProof.Rows.Tuple_ (wpAny_mono (sBs S R es H hm.1 F G h) (fun vs s₁ h₁ => ?_) fun _ _ x => x)
        obtain ⟨⟨h1, t1, ds, rfl, x1, r1, h⟩, hl⟩ := h₁
        refine wpAny_newTuple ?_ (by rw [sizeLine_eq]; omega)
        exact Post.mk (s := s) (x1.trans (Ext.push _ _)) (.tup (Heap.get?_push_size _ rfl) rfl rfl (by simpa using r1.ext (Ext.push _ _))) h
      · cases hm
    exact ⟨ev, test_plain (fun nm ns e hm env => by unfold mE at hm; split at hm <;> first | rfl | cases hm) ev⟩
  | .lst es => by
    have ev : EvalOK W A n (.lst es) := by
      intro env ns ρ P s e H hm F G h
      unfold mE at hm
      split at hm
      · simp only [Bool.and_eq_true, decide_eq_true_eq] at hm
        unfold wpE at h
        refine PyProof.Rows.List_ (wpAny_mono (sBs S R es H hm.1 F G h) (fun vs s₁ h₁ => ?_) fun _ _ x => x)
        obtain ⟨⟨h1, t1, ds, rfl, x1, r1, h⟩, hl⟩ := h₁
        refine wpAny_newObj_type ?_ (by show vs.toArray.size ≤ sizeLine; rw [sizeLine_eq, List.size_toArray]; omega)
        exact Post.mk (s := s) (x1.trans (Ext.push _ _)) (.lst (Heap.get?_push_size _ rfl) rfl rfl (by simpa using r1.ext (Ext.push _ _))) h
      · cases hm
    exact ⟨ev, test_plain (fun nm ns e hm env => by unfold mE at hm; split at hm <;> first | rfl | cases hm) ev⟩
  | .item o i => by
    have ev : EvalOK W A n (.item o i) := by
      intro env ns ρ P s e H hm F G h
      unfold mE at hm
      split at hm
      · simp only [Bool.and_eq_true] at hm
        unfold wpE at h
        refine PyProof.Rows.Subscript_ (wpAny_mono ((sB S R o).1 H hm.1.1 F G h) (fun a s₁ h₁ => ?_) fun _ _ x => x)
        obtain ⟨h1, t1, da, rfl, x1, r1, h⟩ := h₁
        refine wpAny_mono ((sB S R i).1 (s := { s with heap := h1, toks := t1 }) H hm.1.2 (F.ext x1) (G.ext x1) h) (fun b s₂ h₂ => ?_) fun _ _ x => x
        obtain ⟨h2, t2, db, rfl, x2, r2, h⟩ := h₂
        obtain ⟨c, hc, h⟩ := optP_of h
        exact wpAny_mono (item_sound (s := { s with heap := h2, toks := t2 }) hm.2 (r1.ext x2) r2 hc h) (fun v s₃ q => Post.back (x1.trans x2) q) fun _ _ x => x
      · cases hm
    exact ⟨ev, test_plain (fun nm ns e hm env => by unfold mE at hm; split at hm <;> first | rfl | cases hm) ev⟩
  | .shd i => by
    have ev : EvalOK W A n (.shd i) := by
      intro env ns ρ P s e H hm F G h
      unfold mE at hm
      split at hm
      · simp only [Bool.and_eq_true, beq_iff_eq] at hm
        obtain ⟨⟨⟨e1, e2⟩, e3⟩, e4⟩ := hm
        subst e1
        unfold wpE at h
        have S0 := S
        obtain ⟨q, es, nn, k1, k2, k3, k4⟩ := S0
        refine PyProof.Rows.Subscript_ (nameGlo G H e2 k1 (wpAny_mono ((sB S R i).1 H e3 F G h) (fun b s₂ h₂ => ?_) fun _ _ x => x))
        obtain ⟨h2, t2, db, rfl, x2, r2, h⟩ := h₂
        obtain ⟨c, hc, h⟩ := optP_of h
        exact wpAny_mono (shd_sound (s := { s with heap := h2, toks := t2 }) S (G.ext x2) e4 k1 r2 hc h) (fun v s₃ q => Post.back x2 q) fun _ _ x => x
      · cases hm
    exact ⟨ev, test_plain (fun nm ns e hm env => by unfold mE at hm; split at hm <;> first | rfl | cases hm) ev⟩
  | .call f es => by
    have ev : EvalOK W A n (.call f es) := by
      intro env ns ρ P s e H hm F G h
      unfold mE at hm
      split at hm
      · simp only [Bool.and_eq_true, beq_iff_eq] at hm
        obtain ⟨⟨⟨e1, e2⟩, e3⟩, e4⟩ := hm
        subst e1
        unfold wpE at h
        rename_i g gp a as pos
        have hst : notStar a = true ∧ ∃ x xs, es = x :: xs := by
          cases es with
          | nil => simp [mEs] at e3
          | cons x xs =>
            simp only [mEs, Bool.and_eq_true] at e3
            exact ⟨e3.1.2, x, xs, rfl⟩
        have hse := sBs S R es (pos := pos) H e3 F G h
        rw [starEach_cons hst.1] at hse
        refine wpAny_Call_NameR ?_
        rw [starEach_cons hst.1]
        have hfa : ∃ fa o fd, nsIn W.K mainGlobals f = some (some (.ref fa)) ∧ W.K.lookup fa = some o ∧ o.data = .func fd := by
          exact hasFn e4
        obtain ⟨fa, o, fd, k1, k2, k3⟩ := hfa
        refine nameGlo G H e2 k1 (callWith_function (o := o) (fd := fd) (evalArgs_plain (wpAny_mono hse (fun vs s₁ h₁ => ?_) fun _ _ x => x)))
        obtain ⟨⟨h1, t1, ds, rfl, x1, r1, d, hok, h⟩, hl⟩ := h₁
        refine ⟨⟨(G.ext x1).X _ _ k2, k3⟩, ?_⟩
        obtain ⟨fa', o', fd', q1, q2, q3, q4⟩ := hok
        rw [k1] at q1
        cases q1
        refine wpAny_mono (q4 A { s with heap := h1, toks := t1 } vs R (G.ext x1) r1) (fun v s₃ q => ?_) fun _ _ x => x
        obtain ⟨h3, t3, d', rfl, x3, r3, rfl⟩ := q
        exact Post.mk (s := s) (x1.trans x3) r3 h
      · cases hm
    exact ⟨ev, test_plain (fun nm ns e hm env => by unfold mE at hm; split at hm <;> first | rfl | cases hm) ev⟩
  | .bl o => by
    have ev : EvalOK W A n (.bl o) := by
      intro env ns ρ P s e H hm F G h
      unfold mE at hm
      split at hm
      · simp only [Bool.and_eq_true, beq_iff_eq] at hm
        obtain ⟨⟨⟨e1, e2⟩, e3⟩, e4⟩ := hm
        subst e1
        unfold wpE at h
        refine bl_sound (x := 0) e3 (by simpa using e4) (wpAny_mono ((sB S R o).1 H e2 F G h) (fun a s₁ h₁ => ?_) fun _ _ x => x)
        obtain ⟨h1, t1, da, rfl, x1, r1, h⟩ := h₁
        split at h
        · exact Post.mk (s := s) x1 r1 ⟨_, rfl, h⟩
        · exact h.elim
      · cases hm
    exact ⟨ev, test_plain (fun nm ns e hm env => by unfold mE at hm; split at hm <;> first | rfl | cases hm) ev⟩
  | .isInt o => by
    have ev : EvalOK W A n (.isInt o) := by
      intro env ns ρ P s e H hm F G h
      unfold mE at hm
      split at hm
      · simp only [Bool.and_eq_true, beq_iff_eq] at hm
        obtain ⟨⟨⟨⟨⟨e1, e2⟩, e3⟩, e4⟩, e5⟩, e6⟩ := hm
        unfold wpE at h
        refine isInt_sound R H e1 e2 G e3 e4 e6 (wpAny_mono ((sB S R o).1 H e5 F G h) (fun a s₁ h₁ => ?_) fun _ _ x => x)
        obtain ⟨h1, t1, da, rfl, x1, r1, h⟩ := h₁
        split at h
        · exact Post.mk (s := s) x1 r1 ⟨_, rfl, h⟩
        · exact h.elim
      · cases hm
    exact ⟨ev, test_plain (fun nm ns e hm env => by unfold mE at hm; split at hm <;> first | rfl | cases hm) ev⟩
  | .toInt o => by
    have ev : EvalOK W A n (.toInt o) := by
      intro env ns ρ P s e H hm F G h
      unfold mE at hm
      split at hm
      · simp only [Bool.and_eq_true, beq_iff_eq] at hm
        obtain ⟨⟨⟨e1, e2⟩, e3⟩, e4⟩ := hm
        unfold wpE at h
        refine toInt_sound H e1 G e2 e4 (wpAny_mono ((sB S R o).1 H e3 F G h) (fun a s₁ h₁ => ?_) fun _ _ x => x)
        obtain ⟨h1, t1, da, rfl, x1, r1, h⟩ := h₁
        split at h
        · exact Post.mk (s := s) x1 r1 ⟨_, rfl, h⟩
        · exact h.elim
      · cases hm
    exact ⟨ev, test_plain (fun nm ns e hm env => by unfold mE at hm; split at hm <;> first | rfl | cases hm) ev⟩
  | .dvm o i => by
    have ev : EvalOK W A n (.dvm o i) := by
      intro env ns ρ P s e H hm F G h
      unfold mE at hm
      split at hm
      · simp only [Bool.and_eq_true, beq_iff_eq] at hm
        obtain ⟨⟨⟨⟨⟨e1, e2⟩, e3⟩, e4⟩, e5⟩, e6⟩ := hm
        unfold wpE at h
        refine dvm_sound H e1 G e2 e4 e6 (wpAny_mono ((sB S R o).1 H e3 F G h) (fun a s₁ h₁ => ?_) fun _ _ x => x)
        obtain ⟨h1, t1, da, rfl, x1, r1, h⟩ := h₁
        refine wpAny_mono ((sB S R i).1 (s := { s with heap := h1, toks := t1 }) H e5 (F.ext x1) (G.ext x1) h) (fun b s₂ h₂ => ?_) fun _ _ x => x
        obtain ⟨h2, t2, db, rfl, x2, r2, h⟩ := h₂
        split at h
        · cases r1
          cases r2
          exact ⟨h2, t2, _, _, _, _, rfl, x1.trans x2, rfl, rfl, h⟩
        · exact h.elim
      · cases hm
    exact ⟨ev, test_plain (fun nm ns e hm env => by unfold mE at hm; split at hm <;> first | rfl | cases hm) ev⟩
  | .mx o i => by
    have ev : EvalOK W A n (.mx o i) := by
      intro env ns ρ P s e H hm F G h
      unfold mE at hm
      split at hm
      · simp only [Bool.and_eq_true, beq_iff_eq] at hm
        obtain ⟨⟨⟨⟨⟨e1, e2⟩, e3⟩, e4⟩, e5⟩, e6⟩ := hm
        unfold wpE at h
        refine mx_sound R H e1 G e2 e4 e6 (wpAny_mono ((sB S R o).1 H e3 F G h) (fun a s₁ h₁ => ?_) fun _ _ x => x)
        obtain ⟨h1, t1, da, rfl, x1, r1, h⟩ := h₁
        refine wpAny_mono ((sB S R i).1 (s := { s with heap := h1, toks := t1 }) H e5 (F.ext x1) (G.ext x1) h) (fun b s₂ h₂ => ?_) fun _ _ x => x
        obtain ⟨h2, t2, db, rfl, x2, r2, h⟩ := h₂
        split at h
        · cases r1
          cases r2
          exact ⟨h2, t2, _, _, _, _, rfl, x1.trans x2, rfl, rfl, h⟩
        · exact h.elim
      · cases hm
    exact ⟨ev, test_plain (fun nm ns e hm env => by unfold mE at hm; split at hm <;> first | rfl | cases hm) ev⟩
  | .len o => by
    have ev : EvalOK W A n (.len o) := by
      intro env ns ρ P s e H hm F G h
      unfold mE at hm
      split at hm
      · simp only [Bool.and_eq_true, beq_iff_eq] at hm
        obtain ⟨⟨⟨e1, e2⟩, e3⟩, e4⟩ := hm
        unfold wpE at h
        refine len_sound H e1 G e2 e4 (wpAny_mono ((sB S R o).1 H e3 F G h) (fun a s₁ h₁ => ?_) fun _ _ x => x)
        obtain ⟨h1, t1, da, rfl, x1, r1, h⟩ := h₁
        split at h
        · exact Post.mk (s := s) x1 r1 ⟨_, rfl, h⟩
        · exact h.elim
      · cases hm
    exact ⟨ev, test_plain (fun nm ns e hm env => by unfold mE at hm; split at hm <;> first | rfl | cases hm) ev⟩
  | .all o => by
    have ev : EvalOK W A n (.all o) := by
      intro env ns ρ P s e H hm F G h
      unfold mE at hm
      split at hm
      · simp only [Bool.and_eq_true, beq_iff_eq] at hm
        obtain ⟨⟨⟨e1, e2⟩, e3⟩, e4⟩ := hm
        unfold wpE at h
        refine all_sound R H e1 G e2 e4 (wpAny_mono ((sB S R o).1 H e3 F G h) (fun a s₁ h₁ => ?_) fun _ _ x => x)
        obtain ⟨h1, t1, da, rfl, x1, r1, h⟩ := h₁
        split at h
        · obtain ⟨b, hb, h⟩ := optP_of h
          exact Post.mk (s := s) x1 r1 ⟨_, b, rfl, hb, h⟩
        · exact h.elim
      · cases hm
    exact ⟨ev, test_plain (fun nm ns e hm env => by unfold mE at hm; split at hm <;> first | rfl | cases hm) ev⟩
  | .comp src x elt => by
    have ev : EvalOK W A n (.comp src x elt) := by
      intro env ns ρ P s e H hm F G h
      unfold mE at hm
      split at hm
      · rename_i elt' y yp iter scope pos
        simp only [Bool.and_eq_true, beq_iff_eq] at hm
        obtain ⟨⟨⟨⟨e1, e2⟩, e3⟩, e4⟩, e5⟩ := hm
        subst e1
        unfold wpE at h
        have key : ∀ {L : List D}, L.length ≤ 100 → (∀ y, foldedSetIterable iter env y = pure y) → wpAny (model W.prog W.w) A (eval iter env) (fun xv s₁ => wpAny (model W.prog W.w) A (pyIter xv) (IterOf W A s L) F0 s₁) F0 s →
            wpEach (fun d k => wpE (Ok W n) (some d :: ρ) elt k) L (fun ds => P (.list ds)) → wpAny (model W.prog W.w) A (eval (.ListComp elt' [⟨.Name x yp, iter, [], 0⟩] scope pos) env) (Post s P) F0 s :=
          fun hL hs hi hP => comp_sound R H e2 e3 F G hs hL hi (fun d cl C s' P' H' hn' F' G' h' => (sB S R elt).1 H' (by rw [hn']; exact e4) F' G' h') hP
        split at e5
        · simp only [Bool.and_eq_true, beq_iff_eq, decide_eq_true_eq] at e5
          obtain ⟨⟨⟨g1, g2⟩, g3⟩, g4⟩ := e5
          subst g3
          exact key (by simp [srcD]; omega) (fun _ => rfl) (range_iter R H g1 G g2 g4) h
        · simp only [Bool.and_eq_true, beq_iff_eq, decide_eq_true_eq] at e5
          obtain ⟨⟨g1, g2⟩, g3⟩ := e5
          subst g1
          exact key (by simp [srcD]; omega) (fun _ => rfl) (text_iter R g2) h
        · cases e5
      · cases hm
    exact ⟨ev, test_plain (fun nm ns e hm env => by unfold mE at hm; split at hm <;> first | rfl | cases hm) ev⟩
  | .bad => by
    have ev : EvalOK W A n (.bad) := by
      intro env ns ρ P s e H hm F G h
      unfold wpE at h
      exact h.elim
    exact ⟨ev, fun {env ns ρ Q s e} H hm F G h => (by unfold wpE at h; exact h.elim)⟩

theorem sBs (S : ShdAt W) (R : Room n A) : ∀ (es : List ME) {env : Env} {ns : List Str} {ρ : Rho} {P : List D → Prop} {s : Shared} {l : List Expr} {pos : Pos}, EnvOK env → mEs W.K env.scope.names ns es l = true → Fro ns env s.heap ρ → Gd W s.heap → wpEs (Ok W n) ρ es P →
    wpAny (model W.prog W.w) A (spliced (backTo pos (starEach l env))) (fun vs s' => PostL s P vs s' ∧ vs.length = es.length) F0 s
  | [], env, ns, ρ, P, s, l, pos, H, hm, F, G, h => by
    cases l with
    | nil => exact spliced_nil ⟨⟨s.heap, s.toks, [], rfl, Ext.refl _, .nil, h⟩, rfl⟩
    | cons _ _ => simp [mEs] at hm
  | x :: xs, env, ns, ρ, P, s, l, pos, H, hm, F, G, h => by
    cases l with
    | nil => simp [mEs] at hm
    | cons e r =>
      simp only [mEs, Bool.and_eq_true] at hm
      unfold wpEs at h
      rw [starEach_cons hm.1.2]
      refine spliced_cons (wpAny_mono ((sB S R x).1 H hm.1.1 F G h) (fun v s₁ h₁ => ?_) fun _ _ x => x)
      obtain ⟨h1, t1, d, rfl, x1, r1, h⟩ := h₁
      refine wpAny_mono (sBs S R xs (s := { s with heap := h1, toks := t1 }) H hm.2 (F.ext x1) (G.ext x1) h) (fun vs s₂ h₂ => ?_) fun _ _ x => x
      obtain ⟨⟨h2, t2, ds, rfl, x2, r2, h⟩, hl⟩ := h₂
      exact ⟨⟨h2, t2, d :: ds, rfl, x1.trans x2, .cons (r1.ext x2) r2, h⟩, by rw [List.length_cons, List.length_cons, hl]⟩
end
end
end Mine

end

section
open PySem PySem.Calls
set_option maxRecDepth 100000
set_option linter.unusedVariables false
namespace Mine
open PySem.W (Frag nsIn mg_of mg_none_of)

/-- all that is no variable of the frame stays -/
def Only (env : Env) (h h' : Heap) : Prop := ∀ b o, b ≠ env.locals → (∀ x, env.cells.lookup x ≠ some b) → h.get? b = some o → h'.get? b = some o
theorem Only.refl {env : Env} (h : Heap) : Only env h h := fun _ _ _ _ e => e
theorem Only.trans {env : Env} {a b c : Heap} (x : Only env a b) (y : Only env b c) : Only env a c := fun q o p r e => y q o p r (x q o p r e)
theorem Ext.only {env : Env} {a b : Heap} (x : Ext a b) : Only env a b := fun q o _ _ e => x q o e

/-- the frame's own places are new ones, and apart -/
structure Own (g : Heap) (env : Env) : Prop where
  loc : g.objs.size ≤ env.locals
  cel : ∀ x c, env.cells.lookup x = some c → g.objs.size ≤ c
  inj : ∀ x y c, env.cells.lookup x = some c → env.cells.lookup y = some c → x = y
theorem Only.ext {g : Heap} {env : Env} {a b : Heap} (w : Own g env) (x : Ext g a) (y : Only env a b) : Ext g b := fun q o e => by
  have hq := Heap.lt_size e
  refine y q o (Nat.ne_of_lt (Nat.lt_of_lt_of_le hq w.loc)) (fun z hz => ?_) (x q o e)
  exact Nat.lt_irrefl _ (Nat.lt_of_lt_of_le hq (w.cel z q hz))

def CellsIn (env : Env) (h : Heap) : Prop := ∀ x c, env.cells.lookup x = some c → ∃ v, h.IsCell c v

structure FInv (g : Heap) (ns : List Str) (env : Env) (h : Heap) (ρ : Rho) : Prop where
  fro : Fro ns env h ρ
  ext : Ext g h
  cel : CellsIn env h
theorem FInv.grow {g : Heap} {ns : List Str} {env : Env} {h h' : Heap} {ρ : Rho} (f : FInv g ns env h ρ) (k : Ext h h') : FInv g ns env h' ρ :=
  ⟨f.fro.ext k, f.ext.trans k, fun x c e => let ⟨v, q⟩ := f.cel x c e; ⟨v, q.keeps k⟩⟩
theorem FInv.ltL {g : Heap} {ns : List Str} {env : Env} {h : Heap} {ρ : Rho} (f : FInv g ns env h ρ) : env.locals < h.objs.size := let ⟨_, hn, _⟩ := f.fro; hn.lt
theorem FInv.ltC {g : Heap} {ns : List Str} {env : Env} {h : Heap} {ρ : Rho} (f : FInv g ns env h ρ) {x : Str} {c : Addr} (e : env.cells.lookup x = some c) : c < h.objs.size := let ⟨_, q⟩ := f.cel x c e; q.lt
/-- a change of an object that is no frame's place and no sequence -/
theorem FInv.but {g : Heap} {ns : List Str} {env : Env} {h h' : Heap} {ρ : Rho} {b : Addr} (f : FInv g ns env h ρ) (k : ∀ c o, c ≠ b → h.get? c = some o → h'.get? c = some o) (hl : b ≠ env.locals) (hc : ∀ x, env.cells.lookup x ≠ some b)
    (hs : ∀ o vs m, h.get? b = some o → o.data ≠ .seq vs m) (hg : g.get? b = none) : FInv g ns env h' ρ := by
  obtain ⟨⟨m, hn, hv⟩, he, hce⟩ := f
  have hcell : ∀ {x c v}, env.cells.lookup x = some c → h.IsCell c v → h'.IsCell c v := fun {x c v} e q => by
    obtain ⟨o, ho, hd⟩ := q
    exact ⟨o, k c o (fun q => hc x (by rw [e, q])) ho, hd⟩
  refine ⟨⟨m, ?_, fun i x d a e l => ?_⟩, fun q o e => k q o (fun z => by rw [z, hg] at e; cases e) (he q o e), fun x c e => let ⟨v, q⟩ := hce x c e; ⟨v, hcell e q⟩⟩
  · obtain ⟨o, es, ep, e, r⟩ := hn
    exact ⟨o, es, ep, k _ _ (Ne.symm hl) e, r⟩
  · obtain ⟨v, p, r⟩ := hv i x d a e l
    refine ⟨v, ?_, r.seq (seqExt_but k hs)⟩
    unfold VarAt at p ⊢
    split at p
    · exact p
    · obtain ⟨c, e1, e2⟩ := p; exact ⟨c, e1, hcell e1 e2⟩
    · obtain ⟨c, e1, e2⟩ := p; exact ⟨c, e1, hcell e1 e2⟩
    · exact p

def canStore (nm : List (Str × NameKind)) (x : Str) : Bool := match nm.lookup x with
  | some .local => true
  | some .cell => true
  | _ => false

theorem getElem?_set_cases {ρ : Rho} {i j : Nat} {d e : D} (h : (ρ.set i (some d))[j]? = some (some e)) : (j = i ∧ e = d) ∨ (j ≠ i ∧ ρ[j]? = some (some e)) := by
  by_cases q : j = i
  · subst q
    rw [List.getElem?_set_self'] at h
    cases p : ρ[j]? with
    | none => rw [p] at h; cases h
    | some z => rw [p] at h; cases h; exact .inl ⟨rfl, rfl⟩
  · rw [List.getElem?_set_ne (fun z => q z.symm)] at h
    exact .inr ⟨q, h⟩
theorem nodup_get {ns : List Str} (hd : ns.Nodup) {i j : Nat} {x : Str} (a : ns[i]? = some x) (b : ns[j]? = some x) : i = j := by
  obtain ⟨h1, e1⟩ := List.getElem?_eq_some_iff.mp a
  obtain ⟨h2, e2⟩ := List.getElem?_eq_some_iff.mp b
  exact (List.getElem_inj hd).mp (e1.trans e2.symm)

section
variable {M : Model} {A : Around} {s : Shared} {env : Env} {g : Heap} {ns : List Str} {ρ : Rho}

theorem store_sound {i : Nat} {x : Str} {v : Value} {d : D} {Q : Unit → Shared → Prop} (H : EnvOK env) (w : Own g env) (hnd : ns.Nodup) (hx : ns[i]? = some x) (hst : canStore env.scope.names x = true) (f : FInv g ns env s.heap ρ) (r : Rp s.heap v d)
    (h : ∀ h' tk, FInv g ns env h' (ρ.set i (some d)) → Only env s.heap h' → SeqExt s.heap h' → Q () { s with heap := h', toks := tk }) : wpAny M A (storeName env x v) Q F0 s := by
  unfold canStore at hst
  have f0 := f
  obtain ⟨⟨m, hn, hv⟩, he, hce⟩ := f0
  have hnL : ∀ z c, env.cells.lookup z = some c → c ≠ env.locals := fun z c e q => by
    obtain ⟨v0, o, ho, hd⟩ := hce z c e
    obtain ⟨o', es, ep, ho', hd', _⟩ := hn
    rw [q, ho'] at ho
    cases ho
    rw [hd'] at hd
    cases hd
  split at hst
  · rename_i hk
    refine wpAny_storeName_local (by exact hk) hn (fun h' hn' hs' => ?_) (by show (env.scope.kind == .class || (env.scope.kind == .module && _)) = false; rw [H.kf]; rfl)
    have kb : ∀ b o, b ≠ env.locals → s.heap.get? b = some o → h'.get? b = some o := fun b o q e => hs'.extBut b o q e
    have ks : SeqExt s.heap h' := seqExt_but kb (ns_notSeq hn)
    have kc : ∀ {z c vv}, env.cells.lookup z = some c → s.heap.IsCell c vv → h'.IsCell c vv := fun {z c vv} e q => let ⟨o, ho, hd⟩ := q; ⟨o, kb c o (hnL z c e) ho, hd⟩
    have ko : Only env s.heap h' := fun b o q _ e => kb b o q e
    refine h h' _ ⟨⟨_, hn', fun j y dj a e l => ?_⟩, Only.ext w he ko, fun z c e => let ⟨vv, q⟩ := hce z c e; ⟨vv, kc e q⟩⟩ ko ks
    rcases getElem?_set_cases e with ⟨rfl, rfl⟩ | ⟨hji, e⟩
    · rw [hx] at a
      cases a
      refine ⟨v, ?_, r.seq ks⟩
      unfold VarAt
      rw [hk]
      simp
    · obtain ⟨vj, p, rj⟩ := hv j y dj a e l
      have hyx : y ≠ x := fun q => hji (nodup_get hnd a (by rw [hx, q]))
      refine ⟨vj, ?_, rj.seq ks⟩
      unfold VarAt at p ⊢
      split at p
      · simp only [hyx, if_false]; exact p
      · obtain ⟨c, e1, e2⟩ := p; exact ⟨c, e1, kc e1 e2⟩
      · obtain ⟨c, e1, e2⟩ := p; exact ⟨c, e1, kc e1 e2⟩
      · exact p
  · rename_i hk
    obtain ⟨c, hc⟩ := H.ce x hk
    obtain ⟨v0, hc0⟩ := hce x c hc
    refine wpAny_storeName_cell H.kf hk hc hc0 fun h' hc' hs' => ?_
    have kb : ∀ b o, b ≠ c → s.heap.get? b = some o → h'.get? b = some o := fun b o q e => hs'.extBut b o q e
    have ks : SeqExt s.heap h' := seqExt_but kb (fun o vs k e d => by
      obtain ⟨o', ho', hd'⟩ := hc0
      rw [ho'] at e
      cases e
      rw [hd'] at d
      cases d)
    have kc : ∀ {z c2 vv}, z ≠ x → env.cells.lookup z = some c2 → s.heap.IsCell c2 vv → h'.IsCell c2 vv := fun {z c2 vv} hz e q =>
      let ⟨o, ho, hd⟩ := q; ⟨o, kb c2 o (fun z9 => hz (w.inj z x c (by rw [e, z9]) hc)) ho, hd⟩
    have ko : Only env s.heap h' := fun b o _ q e => kb b o (fun z9 => q x (by rw [hc, z9])) e
    have hn' : h'.Ns env.locals m := let ⟨o, es, ep, e, rr⟩ := hn; ⟨o, es, ep, kb _ _ (Ne.symm (hnL x c hc)) e, rr⟩
    refine h h' s.toks ⟨⟨m, hn', fun j y dj a e l => ?_⟩, Only.ext w he ko, fun z c2 e => ?_⟩ ko ks
    · rcases getElem?_set_cases e with ⟨rfl, rfl⟩ | ⟨hji, e⟩
      · rw [hx] at a
        cases a
        refine ⟨v, ?_, r.seq ks⟩
        unfold VarAt
        rw [hk]
        exact ⟨c, hc, hc'⟩
      · obtain ⟨vj, p, rj⟩ := hv j y dj a e l
        have hyx : y ≠ x := fun q => hji (nodup_get hnd a (by rw [hx, q]))
        refine ⟨vj, ?_, rj.seq ks⟩
        unfold VarAt at p ⊢
        split at p
        · exact p
        · obtain ⟨c2, e1, e2⟩ := p; exact ⟨c2, e1, kc hyx e1 e2⟩
        · obtain ⟨c2, e1, e2⟩ := p; exact ⟨c2, e1, kc hyx e1 e2⟩
        · exact p
    · by_cases hz : z = x
      · subst hz
        rw [hc] at e
        cases e
        exact ⟨_, hc'⟩
      · obtain ⟨vv, q⟩ := hce z c2 e
        exact ⟨vv, kc hz e q⟩
  · cases hst
end

section
variable {prog : Program} {w : World} {A : Around} {s : Shared}

theorem draw_list {it t : Addr} {items : Array Value} (hne : t ≠ it) : ∀ (n i : Nat) (s : Shared) (Q : List Value → Shared → Prop), s.heap.IsListIter it t i → s.heap.IsList t items → i + n ≤ items.size →
    (∀ h', h'.IsListIter it t (i + n) → Heap.SameBut it s.heap h' → Q ((items.toList.drop i).take n) { s with heap := h' }) → wpAny (model prog w) A (draw (.ref it) n) Q F0 s
  | 0, i, s, Q, hit, _, _, hQ => by
    show wpAny _ _ (pure []) Q F0 s
    exact wpAny_pure (by simpa using hQ s.heap hit (Heap.SameBut.refl ..))
  | n + 1, i, s, Q, hit, ht, hle, hQ => by
    have hlt : i < items.size := by omega
    show wpAny _ _ (pyNext (.ref it) >>= _) Q F0 s
    refine wpAny_bind (wpAny_pyNext_list_item hit ht (x := items[i]) (by simp [hlt]) fun h₁ hit₁ hs₁ => ?_)
    refine wpAny_bind (wpAny_holding (draw_list hne n (i + 1) _ _ hit₁ (ht.extBut hs₁.extBut hne) (by omega) fun h₂ hit₂ hs₂ => wpAny_pure ?_))
    have hd : items.toList.drop i = items[i] :: items.toList.drop (i + 1) := by simp [List.drop_eq_getElem_cons, hlt]
    have := hQ h₂ (by rw [show i + (n + 1) = i + 1 + n by omega]; exact hit₂) (hs₁.trans hs₂)
    rw [hd, List.take_succ_cons] at this
    exact this

theorem unpackItems_seq {v : Value} {ds : List D} {k : Nat} {Q : List Value → Shared → Prop} (hh : A.handled = none) (hv : Rp s.heap v (.tuple ds) ∨ Rp s.heap v (.list ds)) (hk : k = ds.length)
    (hQ : ∀ vs h', Ext s.heap h' → Rps h' vs ds → Q vs { s with heap := h' }) : wpAny (model prog w) A (unpackItems v k none) Q F0 s := by
  rcases hv with hv | hv
  · cases hv with
    | tup e c d r =>
      rename_i a o vs nn
      have hl := r.length
      have hsz : k = vs.size := by rw [hk, ← hl]; simp
      rw [hsz]
      refine PyProof.Rows.unpackItems_tuple hh ⟨_, e, c, _, d⟩ fun h' he => ?_
      have hx : Ext s.heap h' := fun b o q => he b o (Nat.ne_of_lt (Heap.lt_size q)) q
      exact hQ _ h' hx (r.ext hx)
  · cases hv with
    | lst e c d r =>
      rename_i a o vs nn
      have hl := r.length
      have hsz : k = vs.size := by rw [hk, ← hl]; simp
      rw [hsz]
      have ht : s.heap.IsList a vs := ⟨_, e, c, _, d⟩
      have hlt : a ≠ s.heap.objs.size := Nat.ne_of_lt (Heap.lt_size e)
      unfold unpackItems
      refine wpAny_bind ?_
      unfold notIterableAtAll
      refine wpAny_bind (wpAny_specialOf ht.typeIs slot_list_iter.lookup ?_)
      refine wpAny_pure ?_
      simp only [Bool.false_eq_true, if_false]
      refine wpAny_bind (wpAny_holding (wpAny_pyIter_list ht ?_))
      refine wpAny_bind (wpAny_holding (draw_list hlt vs.size 0 _ _ ⟨_, Heap.get?_push_size _ rfl, rfl, rfl⟩ (ht.push _) (by omega) fun h₁ hit₁ hs₁ => ?_))
      have hall : List.take vs.size (List.drop 0 vs.toList) = vs.toList := by
        rw [List.drop_zero]; exact List.take_of_length_le (by simp)
      rw [hall]
      rw [if_neg (by simp)]
      have ht₁ : h₁.IsList a vs := (ht.push _).extBut hs₁.extBut hlt
      refine wpAny_bind (wpAny_holding (wpAny_pyNext_list_end hh hit₁ ht₁ (by simp) fun h₂ he₂ => ?_))
      simp only [Option.isSome_none, Bool.false_eq_true, if_false]
      have hx : Ext s.heap h₂ := fun b o q => he₂ b o (Nat.ne_of_lt (Heap.lt_size q)) (hs₁.extBut b o (Nat.ne_of_lt (Heap.lt_size q)) (Heap.get?_push_of_some _ q))
      exact wpAny_pure (hQ _ h₂ hx (r.ext hx))
end
end Mine

end

section
open PySem PySem.Calls
set_option maxRecDepth 100000
set_option linter.unusedVariables false
namespace Mine
open PySem.W (Frag nsIn mg_of mg_none_of)

def notComp : Expr → Bool
  | .ListComp .. => false
  | .SetComp .. => false
  | .DictComp .. => false
  | _ => true
def notTup : Expr → Bool
  | .Tuple .. => false
  | _ => true
def mTs (nm : List (Str × NameKind)) (ns : List Str) : List Nat → List Expr → Bool
  | [], [] => true
  | i :: is, .Name x _ :: ts => ns[i]? == some x && canStore nm x && mTs nm ns is ts
  | _, _ => false
def tNames (nm : List (Str × NameKind)) (line : Nat) (ts : List Expr) : List Str := ts.filterMap fun
  | .Name id pos => if nm.lookup id == some .local && pos.line == line then some id else none
  | _ => none
def idsOf : List Expr → List Str
  | .Name x _ :: r => x :: idsOf r
  | _ => []
def swapOk (nm : List (Str × NameKind)) (ts vs : List Expr) : Bool :=
  (ts.length == 2 || ts.length == 3) && vs.length == ts.length && vs.all notStar &&
  tNames nm ((ts.head?.map (·.pos.line)).getD 0) ts == idsOf ts && (idsOf ts).length == ts.length && (idsOf ts).eraseDups.length == (idsOf ts).length && !vs.all (foldedForSure 8) && !vs.all (constantsAlone 8)

theorem swap_eq {env : Env} {ts vs : List Expr} {k k2 : Nat} {p p2 : Pos} (H : EnvOK env) (h : swapOk env.scope.names ts vs = true) : swappedStores [.Tuple ts k p] (.Tuple vs k2 p2) env = pure (some (idsOf ts)) := by
  unfold swapOk at h
  simp only [Bool.and_eq_true, Bool.not_eq_true', beq_iff_eq] at h
  obtain ⟨⟨⟨⟨⟨⟨⟨h1, h2⟩, h3⟩, h4⟩, h5⟩, h6⟩, h7⟩, h8⟩ := h
  unfold swappedStores
  have hb : (env.blockKind != .function) = false := by
    unfold Env.blockKind
    rw [H.kf]; rfl
  have hst : (vs.any fun x => match x with | .Starred .. => true | _ => false) = false := by
    rw [List.any_eq_false]
    intro x hx
    have := List.all_eq_true.mp h3 x hx
    cases x <;> first | (intro q; cases q; done) | cases this
  have hnames : (ts.filterMap fun
      | .Name id pos => if env.kindOf id == some .local && pos.line == ((ts.head?.map (·.pos.line)).getD 0) then some id else none
      | _ => none) = idsOf ts := h4
  dsimp only
  rw [h1, h2, hb]
  simp only [bne_self_eq_false, Bool.not_true, Bool.or_false, Bool.false_eq_true, if_false]
  have hst' : ∀ {α : Type} (a b : α), (if (vs.any fun x => match x with | .Starred .. => true | _ => false) = true then a else b) = b := fun a b => by rw [hst]; rfl
  refine (hst' _ _).trans ?_
  simp only [h7, h8, Bool.false_eq_true, if_false]
  have key : ∀ N : List Str, N = idsOf ts → (if (N.length != ts.length || N.eraseDups.length != N.length) = true then pure none else pure (some N) : Sem (Option (List Str))) = pure (some (idsOf ts)) := by
    rintro N rfl
    simp [h5, h6]
  exact key _ h4

section
variable (K : Frag)
mutual
def mS (nm : List (Str × NameKind)) (ns : List Str) : MS → Stmt → Bool
  | .asg i e, st => match st with
    | .Assign [.Name x _] v _ => ns[i]? == some x && canStore nm x && mE K nm ns e v && notComp v
    | _ => false
  | .asgT l e, st => match st with
    | .Assign [.Tuple ts _ _] v _ => mTs nm ns l ts && mE K nm ns e v && notTup v
    | _ => false
  | .asgW l es, st => match st with
    | .Assign [.Tuple ts _ _] (.Tuple vs _ _) _ => mTs nm ns l ts && mEs K nm ns es vs && swapOk nm ts vs && decide (es.length < 100)
    | _ => false
  | .aug i op e, st => match st with
    | .AugAssign (.Name x _) op' v _ => ns[i]? == some x && canStore nm x && isLoc nm x && op == op' && mE K nm ns e v
    | _ => false
  | .ite c a b, st => match st with
    | .If c' a' b' _ => mE K nm ns c c' && mSs nm ns a a' && mSs nm ns b b'
    | _ => false
  | .whl c a, st => match st with
    | .While c' a' o _ => mE K nm ns c c' && mSs nm ns a a' && o.isEmpty
    | _ => false
  | .forS i x a, st => match st with
    | .For (.Name y _) (.Constant (.str t) _ _) a' o _ => ns[i]? == some y && canStore nm y && nm.lookup y == some .local && x == t && t.cps.all (· < 128) && mSs nm ns a a' && o.isEmpty
    | _ => false
  | .ret e, st => match st with
    | .Return (some v) _ => mE K nm ns e v
    | _ => false
  | .asrt e, st => match st with
    | .Assert v _ _ => mE K nm ns e v
    | _ => false
  | .bad, _ => true
def mSs (nm : List (Str × NameKind)) (ns : List Str) : List MS → List Stmt → Bool
  | [], l => l.isEmpty
  | x :: xs, l => match l with
    | y :: ys => mS nm ns x y && mSs nm ns xs ys
    | [] => false
end
end

/-- what stands behind a statement -/
def PostS (g : Heap) (ns : List Str) (env : Env) (s : Shared) (N : Rho → Prop) (R : D → Prop) : Flow → Shared → Prop := fun fl s' =>
  ∃ h tk, s' = { s with heap := h, toks := tk } ∧ Only env s.heap h ∧ (match fl with
    | .next => ∃ ρ', FInv g ns env h ρ' ∧ N ρ'
    | .ret v => Ext g h ∧ ∃ d, Rp h v d ∧ R d
    | _ => False)
theorem PostS.back {g : Heap} {ns : List Str} {env : Env} {s : Shared} {h : Heap} {tk : Nat} {N : Rho → Prop} {R : D → Prop} {fl : Flow} {s' : Shared} (e : Only env s.heap h) (q : PostS g ns env { s with heap := h, toks := tk } N R fl s') : PostS g ns env s N R fl s' := by
  obtain ⟨h', tk', rfl, e', r⟩ := q
  exact ⟨h', tk', rfl, e.trans e', r⟩

theorem swapsComp {v : Expr} {t : Option Expr} {l : Nat} {env : Env} (h : notComp v = true) : swapsWith v t l env = pure false := by
  cases v <;> first | rfl | cases h
theorem swapsTup {v : Expr} {ts : List Expr} {k : Nat} {p : Pos} {l : Nat} {env : Env} : swapsWithSole [.Tuple ts k p] v l env = pure false := by
  cases v <;> rfl
theorem swapNone {v : Expr} {ts : List Expr} {k : Nat} {p : Pos} {env : Env} (h : notTup v = true) : swappedStores [.Tuple ts k p] v env = pure none := by
  cases v <;> first | rfl | cases h

theorem loadLoc {M : Model} {A : Around} {E : Value → Shared → Prop} {s : Shared} {env : Env} {x : Str} {v : Value} {m : Str → Option Value} {Q : Value → Shared → Prop} (hx : isLoc env.scope.names x = true) (H : EnvOK env) (hn : s.heap.Ns env.locals m) (hv : VarAt env s.heap m x v) (h : Q v s) :
    wpAny M A (loadName env x) Q E s := by
  obtain ⟨hd, h2⟩ := debug_of hx
  unfold VarAt at hv
  split at h2
  · rename_i e
    rw [e] at hv
    exact wpAny_loadName_local H.kf e hn hv h
  · rename_i e
    rw [e] at hv
    obtain ⟨c, e1, e2⟩ := hv
    exact wpAny_loadName_cell H.kf e e1 e2 h
  · rename_i e
    rw [e] at hv
    obtain ⟨c, e1, e2⟩ := hv
    exact wpAny_loadName_free H.kf e e1 e2 h (by simpa [bne] using h2)
  · cases h2

section
variable {M : Model} {A : Around} {env : Env} {g : Heap} {ns : List Str}
theorem assign_sound (H : EnvOK env) (w : Own g env) (hnd : ns.Nodup) : ∀ {l : List Nat} {ts : List Expr} {vs : List Value} {ds : List D} {ρ ρ' : Rho} {s : Shared} {Q : Unit → Shared → Prop}, mTs env.scope.names ns l ts = true → setAll ρ l ds = some ρ' → FInv g ns env s.heap ρ → Rps s.heap vs ds →
    (∀ h' tk, FInv g ns env h' ρ' → Only env s.heap h' → Q () { s with heap := h', toks := tk }) → wpAny M A (assignInOrder ((assignEach ts env).map (·.2)) vs) Q F0 s
  | [], [], vs, ds, ρ, ρ', s, Q, _, hset, f, r, h => by
    cases ds with
    | nil =>
      cases hset
      exact PyProof.Rows.assignInOrder_nil (h s.heap s.toks f (Only.refl _))
    | cons _ _ => cases hset
  | i :: l, t :: ts, vs, ds, ρ, ρ', s, Q, hm, hset, f, r, h => by
    cases t with
    | Name x p =>
      simp only [mTs, Bool.and_eq_true, beq_iff_eq] at hm
      cases ds with
      | nil => cases hset
      | cons d ds =>
        cases r with
        | cons r1 r2 =>
          refine PyProof.Rows.assignInOrder_cons (t := assign (.Name x p) env) (PyProof.Rows.assign_Name (store_sound H w hnd hm.1.1 hm.1.2 f r1 fun h1 t1 f1 o1 q1 => ?_))
          refine assign_sound H w hnd (s := { s with heap := h1, toks := t1 }) hm.2 hset f1 (r2.seq q1) fun h2 t2 f2 o2 => h h2 t2 f2 (o1.trans o2)
    | _ => simp [mTs] at hm
  | [], _ :: _, _, _, _, _, _, _, hm, _, _, _, _ => by simp [mTs] at hm
  | _ :: _, [], _, _, _, _, _, _, hm, _, _, _, _ => by simp [mTs] at hm

theorem mTs_ids {nm : List (Str × NameKind)} : ∀ {l : List Nat} {ts : List Expr}, mTs nm ns l ts = true → l.length = ts.length ∧ (idsOf ts).length = ts.length ∧ ∀ (j i : Nat) (x : Str), l[j]? = some i → (idsOf ts)[j]? = some x → ns[i]? = some x ∧ canStore nm x = true
  | [], [], _ => ⟨rfl, rfl, fun j i x e => by simp at e⟩
  | i :: l, t :: ts, hm => by
    cases t with
    | Name x p =>
      simp only [mTs, Bool.and_eq_true, beq_iff_eq] at hm
      obtain ⟨a, b, c⟩ := mTs_ids hm.2
      refine ⟨by simp [a], by simp [idsOf, b], fun j i' x' e1 e2 => ?_⟩
      cases j with
      | zero =>
        simp only [List.getElem?_cons_zero, Option.some.injEq, idsOf] at e1 e2
        subst e1; subst e2
        exact hm.1
      | succ j =>
        simp only [List.getElem?_cons_succ, idsOf] at e1 e2
        exact c j i' x' e1 e2
    | _ => simp [mTs] at hm
  | [], _ :: _, hm => by simp [mTs] at hm
  | _ :: _, [], hm => by simp [mTs] at hm

theorem bind_sound (H : EnvOK env) (w : Own g env) (hnd : ns.Nodup) : ∀ {l : List Nat} {xs : List Str} {vs : List Value} {ds : List D} {ρ ρ' : Rho} {s : Shared} {Q : Unit → Shared → Prop}, (∀ (j i : Nat) (x : Str), l[j]? = some i → xs[j]? = some x → ns[i]? = some x ∧ canStore env.scope.names x = true) → l.length = xs.length → setAll ρ l ds = some ρ' → FInv g ns env s.heap ρ → Rps s.heap vs ds →
    (∀ h' tk, FInv g ns env h' ρ' → Only env s.heap h' → Q () { s with heap := h', toks := tk }) → wpAny M A (assignInOrder (xs.map fun n => bindName env n) vs) Q F0 s
  | [], [], vs, ds, ρ, ρ', s, Q, _, _, hset, f, r, h => by
    cases ds with
    | nil =>
      cases hset
      exact PyProof.Rows.assignInOrder_nil (h s.heap s.toks f (Only.refl _))
    | cons _ _ => cases hset
  | i :: l, x :: xs, vs, ds, ρ, ρ', s, Q, hm, hl, hset, f, r, h => by
    cases ds with
    | nil => cases hset
    | cons d ds =>
      cases r with
      | cons r1 r2 =>
        have hx := hm 0 i x rfl rfl
        refine PyProof.Rows.assignInOrder_cons (t := bindName env x) (wpAny_bindName (store_sound H w hnd hx.1 hx.2 f r1 fun h1 t1 f1 o1 q1 => ?_))
        exact bind_sound H w hnd (l := l) (xs := xs) (ds := ds) (ρ := ρ.set i (some d)) (s := { s with heap := h1, toks := t1 }) (fun j i x e1 e2 => hm (j + 1) i x (by simpa using e1) (by simpa using e2)) (by simpa using hl) hset f1 (r2.seq q1) fun h2 t2 f2 o2 => h h2 t2 f2 (o1.trans o2)
  | [], _ :: _, _, _, _, _, _, _, _, hl, _, _, _, _ => by simp at hl
  | _ :: _, [], _, _, _, _, _, _, _, hl, _, _, _, _ => by simp at hl
end
theorem Rps.reverse {h : Heap} : ∀ {v : List Value} {d : List D}, Rps h v d → Rps h v.reverse d.reverse
  | _, _, .nil => .nil
  | _, _, .cons a b => by
    rw [List.reverse_cons, List.reverse_cons]
    exact Rps.append (Rps.reverse b) (.cons a .nil)
theorem setAll_length : ∀ {l : List Nat} {ds : List D} {ρ ρ' : Rho}, setAll ρ l ds = some ρ' → l.length = ds.length
  | [], [], _, _, _ => rfl
  | _ :: _, _ :: _, _, _, h => congrArg (· + 1) (setAll_length (by simpa [setAll] using h))
  | [], _ :: _, _, _, h => by simp [setAll] at h
  | _ :: _, [], _, _, h => by simp [setAll] at h
end Mine

end

section
open PySem PySem.Calls
set_option maxRecDepth 100000
set_option linter.unusedVariables false
namespace Mine
open PySem.W (Frag nsIn mg_of mg_none_of)

section
variable {W : Wd} {A : Around} {n : Nat} {g : Heap} {env : Env} {ns : List Str}

abbrev StOK (W : Wd) (A : Around) (n : Nat) (g : Heap) (env : Env) (ns : List Str) (m : MS) : Prop := ∀ {ρ : Rho} {N : Rho → Prop} {R : D → Prop} {s : Shared} {st : Stmt}, mS W.K env.scope.names ns m st = true → FInv g ns env s.heap ρ → wpS (Ok W n) ρ m N R →
    wpAny (model W.prog W.w) A (exec st env) (PostS g ns env s N R) F0 s

theorem PostS.of_next {s : Shared} {N : Rho → Prop} {R : D → Prop} {h : Heap} {tk : Nat} {ρ : Rho} (o : Only env s.heap h) (f : FInv g ns env h ρ) (p : N ρ) : PostS g ns env s N R .next { s with heap := h, toks := tk } := ⟨h, tk, rfl, o, ρ, f, p⟩

/-- a loop over a text's signs -/
theorem for_sound (S : ShdAt W) (R : Room n A) (H : EnvOK env) (w : Own g env) (hnd : ns.Nodup) (Gg : Gd W g) {i : Nat} {y : Str} {yp pos cp : Pos} {c : Nat} {x : Str} {body : List Stmt} {f : Rho → (Rho → Prop) → Prop} {ρ : Rho} {N : Rho → Prop} {Rr : D → Prop} {s : Shared}
    (hy : ns[i]? = some y) (hst : canStore env.scope.names y = true) (ha : x.cps.all (· < 128) = true) (F : FInv g ns env s.heap ρ)
    (hbody : ∀ {ρ : Rho} {N : Rho → Prop} {s : Shared}, FInv g ns env s.heap ρ → f ρ N → wpAny (model W.prog W.w) A (execs body env) (PostS g ns env s N Rr) F0 s)
    (h : wpFor f i (srcD (.text x)) ρ N) : wpAny (model W.prog W.w) A (exec (.For (.Name y yp) (.Constant (.str x) c cp) body [] pos) env) (PostS g ns env s N Rr) F0 s := by
  refine wpAny_For (Constant_str (wpAny_pyIter_ascii ha ?_)) (fun _ => rfl)
  have hIL : s.heap.objs.size ≠ env.locals := Ne.symm (Nat.ne_of_lt F.ltL)
  have hIC : ∀ z, env.cells.lookup z ≠ some s.heap.objs.size := fun z e => Nat.lt_irrefl _ (F.ltC e)
  have hIg : g.get? s.heap.objs.size = none := by
    cases q : g.get? s.heap.objs.size with
    | none => rfl
    | some o => exact absurd (Heap.lt_size (F.ext _ _ q)) (Nat.lt_irrefl _)
  generalize hI : s.heap.objs.size = I at hIL hIC hIg ⊢
  have old : ∀ {h0 : Heap} {b o}, Only env (s.heap.push { cls := .type "str_ascii_iterator", data := .fields #[.str x s.toks, .int 0 0] }) h0 → b ≠ env.locals → (∀ z, env.cells.lookup z ≠ some b) → s.heap.get? b = some o → h0.get? b = some o := fun k a b e => k _ _ a b (Heap.get?_push_of_some _ e)
  refine codeAny_forLoop (fun k s' => ∃ (h0 : Heap) (t0 : Nat) (ρ0 : Rho) (j : Nat), s' = { s with heap := h0, toks := t0 } ∧ j + k = x.cps.size ∧ h0.IsStrIter I "str_ascii_iterator" x s.toks j ∧ FInv g ns env h0 ρ0 ∧
      (∀ b o, b ≠ env.locals → (∀ z, env.cells.lookup z ≠ some b) → b ≠ I → s.heap.get? b = some o → h0.get? b = some o) ∧ wpFor f i ((srcD (.text x)).drop j) ρ0 N) ?_ x.cps.size
    ⟨_, _, ρ, 0, rfl, by omega, ⟨_, by rw [← hI]; exact Heap.get?_push_size _ rfl, rfl, rfl⟩, F.grow (Ext.push _ _), fun b o _ _ _ e => Heap.get?_push_of_some _ e, by simpa using h⟩
  rintro k s' ⟨h0, t0, ρ0, j, rfl, hjk, hit, F0', hk, hW⟩
  have hitns : ∀ {h1 : Heap} {jj : Nat}, h1.IsStrIter I "str_ascii_iterator" x s.toks jj → ∀ o vs m, h1.get? I = some o → o.data ≠ .seq vs m := fun {h1 jj} q o vs m e d => by
    obtain ⟨o', e', _, d'⟩ := q
    rw [e'] at e
    cases e
    rw [d'] at d
    cases d
  cases hc : x.cps[j]? with
  | none =>
    have hjs : j = x.cps.size := by
      have := Array.getElem?_eq_none_iff.mp hc
      omega
    refine wpAny_pyNext_ascii_end R.hh hit hc fun h1 he1 => wpAny_execs_nil ?_
    have hdrop : (srcD (.text x)).drop j = [] := by rw [List.drop_eq_nil_iff]; simp [srcD, hjs]
    rw [hdrop] at hW
    refine ⟨h1, t0, rfl, fun b o a c e => ?_, ρ0, F0'.but (b := I) (fun c o q e => he1 c o q e) hIL hIC (hitns hit) hIg, hW⟩
    by_cases q : b = I
    · rw [q, ← hI] at e; exact absurd (Heap.lt_size e) (Nat.lt_irrefl _)
    · exact he1 b o q (hk b o a c q e)
  | some cc =>
    have hlt : j < x.cps.size := (Array.getElem?_eq_some_iff.mp hc).1
    refine wpAny_pyNext_ascii_item hit hc fun h1 hit1 hs1 => ?_
    have hdrop : (srcD (.text x)).drop j = .str ⟨#[cc]⟩ :: (srcD (.text x)).drop (j + 1) := by
      have hl : j < (srcD (.text x)).length := by simp [srcD, hlt]
      rw [List.drop_eq_getElem_cons hl]
      congr 1
      have : (srcD (.text x))[j]? = some (.str ⟨#[cc]⟩) := by simp [srcD, hc]
      rw [List.getElem?_eq_getElem hl] at this
      exact Option.some.inj this
    rw [hdrop] at hW
    have F1 : FInv g ns env h1 ρ0 := F0'.but (b := I) (fun c o q e => hs1.extBut c o q e) hIL hIC (hitns hit) hIg
    refine wpAny_assign_Name (wpF (store_sound (s := { s with heap := h1, toks := t0 + 1 }) H w hnd hy hst F1 (.str _ _) fun h2 t2 F2 o2 q2 => ?_))
    refine wpF (wpAny_mono (hbody (s := { s with heap := h2, toks := t2 }) F2 hW) (fun fl s3 h3 => ?_) fun _ _ e => e)
    obtain ⟨h3', t3, rfl, o3, r3⟩ := h3
    have hkeep : ∀ b o, b ≠ env.locals → (∀ z, env.cells.lookup z ≠ some b) → b ≠ I → s.heap.get? b = some o → h3'.get? b = some o := fun b o a c q e => o3 b o a c (o2 b o a c (hs1.extBut b o q (hk b o a c q e)))
    have hit3 : h3'.IsStrIter I "str_ascii_iterator" x s.toks (j + 1) := by
      obtain ⟨o, e, r⟩ := hit1
      exact ⟨o, o3 _ _ hIL hIC (o2 _ _ hIL hIC e), r⟩
    cases fl with
    | next =>
      obtain ⟨ρ', F3, hn⟩ := r3
      exact ⟨k - 1, by omega, h3', t3, ρ', j + 1, rfl, by omega, hit3, F3, hkeep, hn⟩
    | ret v =>
      refine ⟨h3', t3, rfl, fun b o a c e => ?_, r3⟩
      by_cases q : b = I
      · rw [q, ← hI] at e; exact absurd (Heap.lt_size e) (Nat.lt_irrefl _)
      · exact hkeep b o a c q e
    | brk => exact r3.elim
    | cont => exact r3.elim

theorem assignEach_names {nm : List (Str × NameKind)} : ∀ {l : List Nat} {ts : List Expr} {ds : List D}, mTs nm ns l ts = true → l.length = ds.length → (assignEach ts env).length = ds.length ∧ (assignEach ts env).findIdx? (·.1) = none
  | [], [], ds, _, h => ⟨h, rfl⟩
  | i :: l, t :: ts, ds, hm, h => by
    cases t with
    | Name x p =>
      simp only [mTs, Bool.and_eq_true] at hm
      cases ds with
      | nil => simp at h
      | cons d ds =>
        obtain ⟨a, b⟩ := assignEach_names (ds := ds) hm.2 (by simpa using h)
        refine ⟨by show (assignEach ts env).length + 1 = _; rw [a]; rfl, ?_⟩
        show List.findIdx? _ ((false, assign (.Name x p) env) :: assignEach ts env) = none
        rw [List.findIdx?_cons]
        simp [b]
    | _ => simp [mTs] at hm
  | [], _ :: _, _, hm, _ => by simp [mTs] at hm
  | _ :: _, [], _, hm, _ => by simp [mTs] at hm

mutual
theorem sS (S : ShdAt W) (R : Room n A) (H : EnvOK env) (w : Own g env) (hnd : ns.Nodup) (Gg : Gd W g) : ∀ (m : MS), StOK W A n g env ns m
  | .asg i e, ρ, N, Rr, s, st, hm, F, h => by
    unfold mS at hm
    split at hm
    · simp only [Bool.and_eq_true, beq_iff_eq] at hm
      obtain ⟨⟨⟨e1, e2⟩, e3⟩, e4⟩ := hm
      unfold wpS at h
      refine wpAny_Assign_Name (wpAny_mono ((sB S R e).1 H e3 F.fro (Gg.ext F.ext) h) (fun v s₁ h₁ => ?_) fun _ _ x => x) (swapsComp e4)
      obtain ⟨h1, t1, d, rfl, x1, r1, h⟩ := h₁
      exact store_sound (s := { s with heap := h1, toks := t1 }) H w hnd e1 e2 (F.grow x1) r1 fun h2 t2 F2 o2 _ => PostS.of_next (s := s) (x1.only.trans o2) F2 h
    · cases hm
  | .asgT l e, ρ, N, Rr, s, st, hm, F, h => by
    unfold mS at hm
    split at hm
    · rename_i ts kk tp vv pos
      simp only [Bool.and_eq_true] at hm
      obtain ⟨⟨e1, e2⟩, e3⟩ := hm
      unfold wpS at h
      refine PyProof.Rows.Assign_Tuple (wpAny_mono ((sB S R e).1 H e2 F.fro (Gg.ext F.ext) h) (fun v s₁ h₁ => ?_) fun _ _ x => x) swapsTup (swapNone e3)
      obtain ⟨h1, t1, d, rfl, x1, r1, h⟩ := h₁
      have key : ∀ {ds : List D}, (Rp h1 v (.tuple ds) ∨ Rp h1 v (.list ds)) → optP (setAll ρ l ds) N → wpAny (model W.prog W.w) A (assign (.Tuple ts kk tp) env v) (fun _ => PostS g ns env s N Rr .next) F0 { s with heap := h1, toks := t1 } := fun {ds} hv h => by
        obtain ⟨ρ', hset, hN⟩ := optP_of h
        have hl := setAll_length hset
        obtain ⟨hl2, _, _⟩ := mTs_ids e1
        rw [PyProof.Rows.assign_Tuple]
        refine wpAny_bind (wpAny_standAt ?_)
        have hlen : (assignEach ts env).length = ds.length ∧ (assignEach ts env).findIdx? (·.1) = none := assignEach_names e1 hl
        unfold unpack
        rw [hlen.1, hlen.2]
        refine wpAny_bind (wpAny_holding (unpackItems_seq (s := { s with heap := h1, toks := t1 }) R.hh hv rfl fun vs h2 x2 r2 => ?_))
        exact assign_sound (s := { s with heap := h2, toks := t1 }) H w hnd e1 hset (F.grow (x1.trans x2)) r2 fun h3 t3 F3 o3 => PostS.of_next (s := s) ((x1.trans x2).only.trans o3) F3 hN
      split at h
      · exact key (.inl r1) h
      · exact key (.inr r1) h
      · exact h.elim
    · cases hm
  | .asgW l es, ρ, N, Rr, s, st, hm, F, h => by
    unfold mS at hm
    split at hm
    · simp only [Bool.and_eq_true, decide_eq_true_eq] at hm
      obtain ⟨⟨⟨e1, e2⟩, e3⟩, e4⟩ := hm
      unfold wpS at h
      refine PyProof.Rows.Assign_Tuple_swapped ?_ swapsTup (swap_eq H e3)
      refine PyProof.Rows.Tuple_ (wpAny_mono (sBs S R es H e2 F.fro (Gg.ext F.ext) h) (fun vs s₁ h₁ => ?_) fun _ _ x => x)
      obtain ⟨⟨h1, t1, ds, rfl, x1, r1, h⟩, hl⟩ := h₁
      obtain ⟨ρ', hset, hN⟩ := optP_of h
      have hl3 := setAll_length hset
      obtain ⟨hl2, hl4, hat⟩ := mTs_ids e1
      refine wpAny_newTuple ?_ (by rw [sizeLine_eq]; omega)
      rw [List.length_reverse, List.length_reverse] at hl3
      refine unpackItems_seq (s := { s with heap := _, toks := t1 }) (ds := ds) R.hh (.inl (.tup (Heap.get?_push_size _ rfl) rfl rfl (by simpa using r1.ext (Ext.push _ _)))) (by omega) fun vs2 h2 x2 r2 => ?_
      refine bind_sound (s := { s with heap := h2, toks := t1 }) (l := l.reverse) H w hnd (fun j i x q1 q2 => ?_) (by simp; omega) hset (F.grow ((x1.trans (Ext.push _ _)).trans x2)) r2.reverse fun h3 t3 F3 o3 => PostS.of_next (s := s) (((x1.trans (Ext.push _ _)).trans x2).only.trans o3) F3 hN
      have hj : j < l.length := by
        have := (List.getElem?_eq_some_iff.mp q1).1
        simpa using this
      rw [List.getElem?_reverse hj] at q1
      rw [List.getElem?_reverse (by omega)] at q2
      rw [hl4, ← hl2] at q2
      exact hat _ _ _ q1 q2
    · cases hm
  | .aug i op e, ρ, N, Rr, s, st, hm, F, h => by
    unfold mS at hm
    split at hm
    · rename_i x xp op' v pos
      simp only [Bool.and_eq_true, beq_iff_eq] at hm
      obtain ⟨⟨⟨⟨e1, e2⟩, e3⟩, e4⟩, e5⟩ := hm
      subst e4
      unfold wpS at h
      split at h
      · rename_i a ha
        have F' := F
        obtain ⟨⟨m, hn, hv⟩, _, _⟩ := F'
        obtain ⟨va, q, ra⟩ := hv i x a e1 ha e3
        refine wpAny_AugAssign_Name (loadLoc e3 H hn q (wpAny_mono ((sB S R e).1 H e5 F.fro (Gg.ext F.ext) h) (fun vb s₁ h₁ => ?_) fun _ _ x => x))
        obtain ⟨h1, t1, b, rfl, x1, r1, h⟩ := h₁
        refine wpAny_mono (wpIBin_sound (s := { s with heap := h1, toks := t1 }) (ra.ext x1) r1 h) (fun vr s₂ h₂ => ?_) fun _ _ x => x
        obtain ⟨h2, t2, d, rfl, x2, r2, h⟩ := h₂
        exact store_sound (s := { s with heap := h2, toks := t2 }) H w hnd e1 e2 (F.grow (x1.trans x2)) r2 fun h3 t3 F3 o3 _ => PostS.of_next (s := s) ((x1.trans x2).only.trans o3) F3 h
      · exact h.elim
    · cases hm
  | .ite c a b, ρ, N, Rr, s, st, hm, F, h => by
    unfold mS at hm
    split at hm
    · simp only [Bool.and_eq_true] at hm
      obtain ⟨⟨e1, e2⟩, e3⟩ := hm
      unfold wpS wpT at h
      refine wpAny_If (wpAny_mono ((sB S R c).2 (Q := fun t => (t = true → wpSs (Ok W n) ρ a N Rr) ∧ (t = false → wpSs (Ok W n) ρ b N Rr)) H e1 F.fro (Gg.ext F.ext) h) (fun t s₁ h₁ => ?_) fun _ _ x => x)
      obtain ⟨h1, t1, rfl, x1, h⟩ := h₁
      cases t with
      | true => exact wpAny_mono (sSs S R H w hnd Gg a (s := { s with heap := h1, toks := t1 }) e2 (F.grow x1) (h.1 rfl)) (fun fl s₂ q => PostS.back x1.only q) fun _ _ x => x
      | false => exact wpAny_mono (sSs S R H w hnd Gg b (s := { s with heap := h1, toks := t1 }) e3 (F.grow x1) (h.2 rfl)) (fun fl s₂ q => PostS.back x1.only q) fun _ _ x => x
    · cases hm
  | .whl c a, ρ, N, Rr, s, st, hm, F, h => by
    unfold mS at hm
    split at hm
    · rename_i c' a' o pos
      simp only [Bool.and_eq_true, List.isEmpty_iff] at hm
      obtain ⟨⟨e1, e2⟩, e3⟩ := hm
      subst e3
      unfold wpS at h
      obtain ⟨I, ⟨k0, hI0⟩, hstep⟩ := h
      refine wpAny_While (codeAny_whileLoop (fun k s' => ∃ (h0 : Heap) (t0 : Nat) (ρ0 : Rho), s' = { s with heap := h0, toks := t0 } ∧ Only env s.heap h0 ∧ FInv g ns env h0 ρ0 ∧ I k ρ0) ?_ k0 ⟨s.heap, s.toks, ρ, rfl, Only.refl _, F, hI0⟩)
      rintro k s' ⟨h0, t0, ρ0, rfl, o0, F0', hI⟩
      have h := hstep k ρ0 hI
      unfold wpT at h
      refine wpF (wpAny_mono ((sB S R c).2 (s := { s with heap := h0, toks := t0 }) (Q := fun t => (t = true → wpSs (Ok W n) ρ0 a (fun ρ'' => ∃ m, m < k ∧ I m ρ'') Rr) ∧ (t = false → N ρ0)) H e1 F0'.fro (Gg.ext F0'.ext) h) (fun t s₁ h₁ => ?_) fun _ _ x => x)
      obtain ⟨h1, t1, rfl, x1, h⟩ := h₁
      cases t with
      | true =>
        refine wpF (wpAny_mono (sSs S R H w hnd Gg a (s := { s with heap := h1, toks := t1 }) e2 (F0'.grow x1) (h.1 rfl)) (fun fl s₂ q => ?_) fun _ _ x => x)
        obtain ⟨h2, t2, rfl, o2, r2⟩ := q
        cases fl with
        | next =>
          obtain ⟨ρ', F2, m, hmk, hIm⟩ := r2
          exact ⟨m, hmk, h2, t2, ρ', rfl, (o0.trans x1.only).trans o2, F2, hIm⟩
        | ret v => exact ⟨h2, t2, rfl, (o0.trans x1.only).trans o2, r2⟩
        | brk => exact r2.elim
        | cont => exact r2.elim
      | false => exact wpAny_execs_nil (PostS.of_next (s := s) (o0.trans x1.only) (F0'.grow x1) (h.2 rfl))
    · cases hm
  | .forS i x a, ρ, N, Rr, s, st, hm, F, h => by
    unfold mS at hm
    split at hm
    · simp only [Bool.and_eq_true, beq_iff_eq, List.isEmpty_iff] at hm
      obtain ⟨⟨⟨⟨⟨⟨e1, e2⟩, e3⟩, e4⟩, e5⟩, e6⟩, e7⟩ := hm
      subst e4
      subst e7
      unfold wpS at h
      exact for_sound S R H w hnd Gg (f := fun ρ' k => wpSs (Ok W n) ρ' a k Rr) e1 e2 e5 F (fun {ρ N s} F h => sSs S R H w hnd Gg a e6 F h) h
    · cases hm
  | .ret e, ρ, N, Rr, s, st, hm, F, h => by
    unfold mS at hm
    split at hm
    · unfold wpS at h
      refine wpAny_Return_some (wpAny_mono ((sB S R e).1 H hm F.fro (Gg.ext F.ext) h) (fun v s₁ h₁ => ?_) fun _ _ x => x)
      obtain ⟨h1, t1, d, rfl, x1, r1, h⟩ := h₁
      exact ⟨h1, t1, rfl, x1.only, F.ext.trans x1, d, r1, h⟩
    · cases hm
  | .asrt c, ρ, N, Rr, s, st, hm, F, h => by
    unfold mS at hm
    split at hm
    · unfold wpS wpT at h
      refine wpAny_Assert_holds (wpAny_mono ((sB S R c).2 (Q := fun t => t = true ∧ N ρ) H hm F.fro (Gg.ext F.ext) h) (fun t s₁ h₁ => ?_) fun _ _ x => x)
      obtain ⟨h1, t1, rfl, x1, h⟩ := h₁
      exact ⟨h.1, PostS.of_next (s := s) x1.only (F.grow x1) h.2⟩
    · cases hm
  | .bad, ρ, N, Rr, s, st, hm, F, h => by
    unfold wpS at h
    exact h.elim
theorem sSs (S : ShdAt W) (R : Room n A) (H : EnvOK env) (w : Own g env) (hnd : ns.Nodup) (Gg : Gd W g) : ∀ (ms : List MS) {ρ : Rho} {N : Rho → Prop} {Rr : D → Prop} {s : Shared} {l : List Stmt}, mSs W.K env.scope.names ns ms l = true → FInv g ns env s.heap ρ → wpSs (Ok W n) ρ ms N Rr →
    wpAny (model W.prog W.w) A (execs l env) (PostS g ns env s N Rr) F0 s
  | [], ρ, N, Rr, s, l, hm, F, h => by
    cases l with
    | nil => exact wpAny_execs_nil (PostS.of_next (Only.refl _) F h)
    | cons _ _ => simp [mSs] at hm
  | m :: ms, ρ, N, Rr, s, l, hm, F, h => by
    cases l with
    | nil => simp [mSs] at hm
    | cons st r =>
      simp only [mSs, Bool.and_eq_true] at hm
      unfold wpSs at h
      refine wpAny_execs_cons (wpAny_mono (sS S R H w hnd Gg m hm.1 F h) (fun fl s₁ h₁ => ?_) fun _ _ x => x)
      obtain ⟨h1, t1, rfl, o1, r1⟩ := h₁
      cases fl with
      | next =>
        obtain ⟨ρ', F1, h⟩ := r1
        exact wpAny_mono (sSs S R H w hnd Gg ms (s := { s with heap := h1, toks := t1 }) hm.2 F1 h) (fun fl s₂ q => PostS.back o1 q) fun _ _ x => x
      | ret v => exact ⟨h1, t1, rfl, o1, r1⟩
      | brk => exact r1.elim
      | cont => exact r1.elim
end
end
end Mine

end

section
open PySem PySem.Calls
set_option maxRecDepth 100000
set_option linter.unusedVariables false
namespace Mine
open PySem.W (Frag nsIn mg_of mg_none_of codeIn codeRec_of)

def faOf (K : Frag) (f : Str) : Addr := match nsIn K mainGlobals f with
  | some (some (.ref fa)) => fa
  | _ => 0
def objOf (K : Frag) (f : Str) : Obj := (K.lookup (faOf K f)).getD default
def fdOf (K : Frag) (f : Str) : FuncData := match (objOf K f).data with
  | .func fd => fd
  | _ => default
def bodyOf (K : Frag) (f : Str) : List Stmt := match (fdOf K f).body with
  | .stmts b => b
  | _ => []
def isStmts : FuncBody → Bool
  | .stmts _ => true
  | _ => false
def isFuncD : Data → Bool
  | .func _ => true
  | _ => false
/-- the looks at a def: where it lies, what its frame is -/
def fnChk (K : Frag) (f : Str) (ns : List Str) (body : List MS) : Bool :=
  nsIn K mainGlobals f == some (some (.ref (faOf K f))) && (K.lookup (faOf K f)).isSome && isFuncD (objOf K f).data && isStmts (fdOf K f).body &&
  (fdOf K f).scope.kind == .function && !(fdOf K f).scope.isCoroutine && !(fdOf K f).scope.isGenerator && (fdOf K f).globals == mainGlobals && (fdOf K f).closure.isEmpty && (fdOf K f).builtins == builtinsNs &&
  codeIn K (fdOf K f).code (fdOf K f).qualname && decide ns.Nodup && mSs K (fdOf K f).scope.names ns body (bodyOf K f)
def locChk (K : Frag) (f : Str) (names : List Str) : Bool :=
  (fdOf K f).scope.names.all (fun x => x.2 != .cell) && names.all fun x => (fdOf K f).scope.names.lookup x == some .local

theorem lookup_mem {l : List (Str × NameKind)} {y : Str} {k : NameKind} (e : l.lookup y = some k) : (y, k) ∈ l := by
  induction l with
  | nil => cases e
  | cons z r ih =>
    obtain ⟨m, j⟩ := z
    rw [List.lookup_cons] at e
    cases q : y == m with
    | true => rw [q] at e; cases e; rw [beq_iff_eq.mp q]; exact List.mem_cons_self ..
    | false => rw [q] at e; exact List.mem_cons_of_mem _ (ih e)

theorem lookup_zip : ∀ {names : List Str} {vs : List Value} {i : Nat} {x : Str}, names.Nodup → names.length = vs.length → names[i]? = some x → (names.zip vs).reverse.lookup x = vs[i]? := by
  have aux : ∀ (l : List (Str × Value)) (x : Str) (v : Value), (l.map (·.1)).Nodup → (x, v) ∈ l → l.lookup x = some v := by
    intro l x v
    induction l with
    | nil => intro _ h; cases h
    | cons a l ih =>
      intro hd hm
      obtain ⟨y, u⟩ := a
      simp only [List.map_cons, List.nodup_cons] at hd
      rw [List.lookup_cons]
      rcases List.mem_cons.mp hm with e | hm
      · cases e; simp
      · have : (x == y) = false := by
          simp only [beq_eq_false_iff_ne, ne_eq]
          intro q
          exact hd.1 (by rw [← q]; exact List.mem_map.mpr ⟨_, hm, rfl⟩)
        rw [this]
        exact ih hd.2 hm
  intro names vs i x hnd hl hi
  have hlt : i < names.length := (List.getElem?_eq_some_iff.mp hi).1
  have hv : vs[i]? = some vs[i] := List.getElem?_eq_getElem (by omega)
  rw [hv]
  refine aux _ _ _ ?_ ?_
  · rw [List.map_reverse, List.map_fst_zip (by omega)]
    unfold List.Nodup
    rw [List.pairwise_reverse]
    exact hnd.imp fun h => Ne.symm h
  · rw [List.mem_reverse]
    refine List.mem_iff_getElem?.mpr ⟨i, ?_⟩
    rw [List.getElem?_zip_eq_some]
    exact ⟨hi, hv⟩

theorem nodup_take {ns : List Str} {k : Nat} (h : ns.Nodup) : (ns.take k).Nodup := h.sublist (List.take_sublist _ _)

theorem fnChk_of {K : Frag} {f : Str} {ns : List Str} {body : List MS} (h : fnChk K f ns body = true) :
    nsIn K mainGlobals f = some (some (.ref (faOf K f))) ∧ K.lookup (faOf K f) = some (objOf K f) ∧ (objOf K f).data = .func (fdOf K f) ∧ (fdOf K f).body = .stmts (bodyOf K f) ∧ (fdOf K f).scope.kind = .function ∧
    (fdOf K f).scope.isCoroutine = false ∧ (fdOf K f).scope.isGenerator = false ∧ (fdOf K f).globals = mainGlobals ∧ (fdOf K f).closure = [] ∧ (fdOf K f).builtins = builtinsNs ∧ codeIn K (fdOf K f).code (fdOf K f).qualname = true ∧ ns.Nodup ∧
    mSs K (fdOf K f).scope.names ns body (bodyOf K f) = true := by
  unfold fnChk at h
  simp only [Bool.and_eq_true, beq_iff_eq, decide_eq_true_eq, Bool.not_eq_true', List.isEmpty_iff] at h
  obtain ⟨⟨⟨⟨⟨⟨⟨⟨⟨⟨⟨⟨h1, h2⟩, h3⟩, h4⟩, h5⟩, h6⟩, h7⟩, h8⟩, h9⟩, h10⟩, h11⟩, h12⟩, h13⟩ := h
  refine ⟨h1, ?_, ?_, ?_, h5, h6, h7, h8, h9, h10, h11, h12, h13⟩
  · unfold objOf
    cases q : K.lookup (faOf K f) with
    | none => rw [q] at h2; cases h2
    | some o => rfl
  · unfold fdOf
    cases q : (objOf K f).data with
    | func fd => rfl
    | _ => rw [q] at h3; cases h3
  · unfold bodyOf
    cases q : (fdOf K f).body with
    | stmts b => rfl
    | expr e => rw [q] at h4; cases h4

/-- the arguments of a call reach the frame -/
def BindOK (W : Wd) (f : Str) (names : List Str) (args full : List D) : Prop := ∀ (s : Shared) (vals : List Value), Gd W s.heap → Rps s.heap vals args → ∃ vs, BindsTo s (fdOf W.K f) ⟨vals, []⟩ (names.zip vs) ∧ Rps s.heap vs full

theorem ok_of_body {W : Wd} {n : Nat} {f : Str} {ns : List Str} {body : List MS} {args full : List D} {d : D} (S : ShdAt W) (hc : fnChk W.K f ns body = true) (hl : locChk W.K f (ns.take full.length) = true) (hlen : full.length ≤ ns.length)
    (hb : BindOK W f (ns.take full.length) args full) (h : wpSs (Ok W n) (full.map some ++ List.replicate (ns.length - full.length) none) body (fun _ => False) (· = d)) : Ok W (n + 1) f args d := by
  obtain ⟨h1, h2, h3, h4, h5, h6, h7, h8, h9, h10, h11, h12, h13⟩ := fnChk_of hc
  unfold locChk at hl
  simp only [Bool.and_eq_true, List.all_eq_true, bne_iff_ne, ne_eq, beq_iff_eq] at hl
  refine ⟨_, _, _, h1, h2, h3, fun A s vals R G r => ?_⟩
  obtain ⟨vs, hbind, hvs⟩ := hb s vals G r
  have hvl := hvs.length
  have hnl : (ns.take full.length).length = full.length := by rw [List.length_take]; omega
  refine wpAny_call (codeAny_call_def (R := fun r s' => match r with | .ok (.ret v) => Post s (· = d) v s' | .ok _ => False | .error e => F0 e s') (by have := R.depth; omega) (G.X _ _ h2) h3 G.T.nolimit (codeRec_of G.X h11) h4 hbind hl.1 (fun y hy => ?_) (fun h0 hn0 hk0 => ?_) h6 h7 h5)
  · have : y.1 ∈ ns.take full.length := (List.of_mem_zip hy).1
    exact hl.2 _ this
  · have H : EnvOK (callEnv (fdOf W.K f) s.heap.objs.size (faOf W.K f)) := ⟨h5, h8, h10, fun x e => (hl.1 (x, .cell) (lookup_mem e) rfl).elim⟩
    have hcl : (callEnv (fdOf W.K f) s.heap.objs.size (faOf W.K f)).cells = [] := h9
    have w : Own s.heap (callEnv (fdOf W.K f) s.heap.objs.size (faOf W.K f)) := ⟨Nat.le_refl _, (fun x c e => by rw [hcl] at e; cases e), (fun x y c e => by rw [hcl] at e; cases e)⟩
    have F : FInv s.heap ns (callEnv (fdOf W.K f) s.heap.objs.size (faOf W.K f)) h0 (full.map some ++ List.replicate (ns.length - full.length) none) := by
      refine ⟨⟨_, hn0, fun i x dd a e l => ?_⟩, hk0, fun x c e => by rw [hcl] at e; cases e⟩
      have hi : i < full.length := by
        by_cases q : i < full.length
        · exact q
        · rw [List.getElem?_append_right (by simp; omega)] at e
          simp only [List.getElem?_replicate] at e
          split at e <;> cases e
      rw [List.getElem?_append_left (by simpa using hi), List.getElem?_map] at e
      have he : full[i]? = some dd := by
        cases q : full[i]? with
        | none => rw [q] at e; cases e
        | some z => rw [q] at e; cases e; rfl
      obtain ⟨v, hv, rv⟩ := hvs.get he
      refine ⟨v, ?_, rv.ext hk0⟩
      have hx : (ns.take full.length)[i]? = some x := by rw [List.getElem?_take, if_pos hi]; exact a
      have hloc : (callEnv (fdOf W.K f) s.heap.objs.size (faOf W.K f)).scope.names.lookup x = some .local := hl.2 _ (List.mem_of_getElem? hx)
      unfold VarAt
      rw [hloc]
      show ((ns.take full.length).zip vs).reverse.lookup x = some v
      rw [lookup_zip (nodup_take h12) (by rw [hnl, hvl]) hx, hv]
    refine wpF (wpAny_mono (sSs S (R.deeper _) H w h12 G body (s := { s with heap := h0, toks := s.toks + ((ns.take full.length).zip vs).length }) h13 F h) (fun fl s' q => ?_) fun _ _ e => e)
    obtain ⟨h', t', rfl, o', r'⟩ := q
    cases fl with
    | ret v =>
      obtain ⟨x', dd, rr, rfl⟩ := r'
      exact Post.mk (s := s) x' rr rfl
    | next => obtain ⟨_, _, hF⟩ := r'; exact hF.elim
    | brk => exact r'.elim
    | cont => exact r'.elim
end Mine

end

section
open PySem PySem.Calls
set_option maxRecDepth 100000
set_option linter.unusedVariables false
namespace Mine
def n_trailing : List Str := [("n" : Str)]
def b_trailing : List MS := [.ite (.not (.loc 0)) [.ret (.int (0))] [], .ret (.bin .Sub (.bl (.bin .BitAnd (.loc 0) (.neg (.loc 0)))) (.int (1)))]
-- trailing: 0=n
def n_isqrt_small : List Str := [("x" : Str), ("r" : Str), ("y" : Str)]
def b_isqrt_small : List MS := [.ite (.not (.loc 0)) [.ret (.loc 0)] [], .asg 1 (.bin .LShift (.int (1)) (.bin .RShift (.bin .Add (.bl (.loc 0)) (.int (1))) (.int (1)))), .whl (.int (1)) [.asg 2 (.bin .RShift (.bin .Add (.loc 1) (.bin .FloorDiv (.loc 0) (.loc 1))) (.int (1))), .ite (.cmp .GtE (.loc 2) (.loc 1)) [.ret (.loc 1)] [], .asg 1 (.loc 2)]]
-- isqrt_small: 0=x 1=r 2=y
def n_sqrtrem : List Str := [("x" : Str), ("y" : Str)]
def b_sqrtrem : List MS := [.asg 1 (.call ("isqrt_small" : Str) [(.loc 0)]), .ret (.tup [(.loc 1), (.bin .Sub (.loc 0) (.bin .Mult (.loc 1) (.loc 1)))])]
-- sqrtrem: 0=x 1=y
def n_isqrt : List Str := [("x" : Str)]
def b_isqrt : List MS := [.ret (.item (.call ("sqrtrem" : Str) [(.loc 0)]) (.int (0)))]
-- isqrt: 0=x
def n_norm0 : List Str := [("sign" : Str), ("man" : Str), ("exp" : Str), ("bc" : Str), ("prec" : Str), ("rnd" : Str), ("n" : Str), ("t" : Str)]
def b_norm0 : List MS := [.ite (.not (.loc 1)) [.ret (.gtup ("fzero" : Str) [0, 0, 0, 0])] [], .asg 6 (.bin .Sub (.loc 3) (.loc 4)), .ite (.cmp .Gt (.loc 6) (.int (0))) [.ite (.cmp .Eq (.loc 5) (.gstr ("round_nearest" : Str) chN)) [.asg 7 (.bin .RShift (.loc 1) (.bin .Sub (.loc 6) (.int (1)))), .ite (.and (.bin .BitAnd (.loc 7) (.int (1))) (.or (.bin .BitAnd (.loc 7) (.int (2))) (.bin .BitAnd (.loc 1) (.bin .Sub (.bin .LShift (.gint ("MPZ_ONE" : Str) (1)) (.bin .Sub (.loc 6) (.int (1)))) (.int (1)))))) [.asg 1 (.bin .Add (.bin .RShift (.loc 7) (.int (1))) (.int (1)))] [.asg 1 (.bin .RShift (.loc 7) (.int (1)))]] [.ite (.item (.shd (.loc 5)) (.loc 0)) [.aug 1 .RShift (.loc 6)] [.asg 1 (.neg (.bin .RShift (.neg (.loc 1)) (.loc 6)))]], .aug 2 .Add (.loc 6), .asg 3 (.loc 4)] [], .ite (.not (.bin .BitAnd (.loc 1) (.int (1)))) [.asg 7 (.call ("trailing" : Str) [(.loc 1)]), .aug 1 .RShift (.loc 7), .aug 2 .Add (.loc 7), .aug 3 .Sub (.loc 7)] [], .ite (.cmp .Eq (.loc 1) (.int (1))) [.asg 3 (.int (1))] [], .ret (.tup [(.loc 0), (.loc 1), (.loc 2), (.loc 3)])]
-- norm0: 0=sign 1=man 2=exp 3=bc 4=prec 5=rnd 6=n 7=t
def n_normalize : List Str := [("sign" : Str), ("man" : Str), ("exp" : Str), ("bc" : Str), ("prec" : Str), ("rnd" : Str)]
def b_normalize : List MS := [.asrt (.cmp .Eq (.loc 3) (.bl (.loc 1))), .asrt (.cmp .GtE (.loc 1) (.int (0))), .ret (.call ("_normalize" : Str) [(.loc 0), (.loc 1), (.loc 2), (.loc 3), (.loc 4), (.loc 5)])]
-- normalize: 0=sign 1=man 2=exp 3=bc 4=prec 5=rnd
def n_from_man_exp : List Str := [("man" : Str), ("exp" : Str), ("prec" : Str), ("rnd" : Str), ("sign" : Str), ("bc" : Str), ("t" : Str)]
def b_from_man_exp : List MS := [.ite (.not (.isInt (.loc 0))) [.bad] [], .asg 4 (.int (0)), .ite (.cmp .Lt (.loc 0) (.int (0))) [.asg 4 (.int (1)), .asg 0 (.neg (.loc 0))] [], .asg 5 (.bl (.loc 0)), .ite (.not (.loc 2)) [.ite (.not (.loc 0)) [.ret (.gtup ("fzero" : Str) [0, 0, 0, 0])] [], .ite (.not (.bin .BitAnd (.loc 0) (.int (1)))) [.ite (.bin .BitAnd (.loc 0) (.int (2))) [.ret (.tup [(.loc 4), (.bin .RShift (.loc 0) (.int (1))), (.bin .Add (.loc 1) (.int (1))), (.bin .Sub (.loc 5) (.int (1)))])] [], .asg 6 (.call ("trailing" : Str) [(.loc 0)]), .aug 0 .RShift (.loc 6), .aug 1 .Add (.loc 6), .aug 5 .Sub (.loc 6)] [], .ret (.tup [(.loc 4), (.loc 0), (.loc 1), (.loc 5)])] [], .ret (.call ("normalize" : Str) [(.loc 4), (.loc 0), (.loc 1), (.loc 5), (.loc 2), (.loc 3)])]
-- from_man_exp: 0=man 1=exp 2=prec 3=rnd 4=sign 5=bc 6=t
def n_from_int : List Str := [("n" : Str), ("prec" : Str), ("rnd" : Str)]
def b_from_int : List MS := [.ret (.call ("from_man_exp" : Str) [(.toInt (.loc 0)), (.int (0)), (.loc 1), (.loc 2)])]
-- from_int: 0=n 1=prec 2=rnd
def n_mpf_cmp : List Str := [("s" : Str), ("t" : Str), ("a" : Str), ("b" : Str), ("delta" : Str), ("ssign" : Str), ("sman" : Str), ("sexp" : Str), ("sbc" : Str), ("tsign" : Str), ("tman" : Str), ("texp" : Str), ("tbc" : Str)]
def b_mpf_cmp : List MS := [.asgT [5, 6, 7, 8] (.loc 0), .asgT [9, 10, 11, 12] (.loc 1), .ite (.or (.not (.loc 6)) (.not (.loc 10))) [.ite (.cmp .Eq (.loc 0) (.gtup ("fzero" : Str) [0, 0, 0, 0])) [.ret (.neg (.call ("mpf_sign" : Str) [(.loc 1)]))] [], .ite (.cmp .Eq (.loc 1) (.gtup ("fzero" : Str) [0, 0, 0, 0])) [.ret (.call ("mpf_sign" : Str) [(.loc 0)])] [], .ite (.cmp .Eq (.loc 0) (.loc 1)) [.ret (.int (0))] [], .ite (.cmp .Eq (.loc 1) (.gtup ("fnan" : Str) [0, 0, -123, -1])) [.ret (.int (1))] [], .ite (.cmp .Eq (.loc 0) (.gtup ("finf" : Str) [0, 0, -456, -2])) [.ret (.int (1))] [], .ite (.cmp .Eq (.loc 1) (.gtup ("fninf" : Str) [1, 0, -789, -3])) [.ret (.int (1))] [], .ret (.neg (.int (1)))] [], .ite (.cmp .NotEq (.loc 5) (.loc 9)) [.ite (.not (.loc 5)) [.ret (.int (1))] [], .ret (.neg (.int (1)))] [], .ite (.cmp .Eq (.loc 7) (.loc 11)) [.ite (.cmp .Eq (.loc 6) (.loc 10)) [.ret (.int (0))] [], .ite (.cmp .Gt (.loc 6) (.loc 10)) [.ite (.loc 5) [.ret (.neg (.int (1)))] [.ret (.int (1))]] [.ite (.loc 5) [.ret (.int (1))] [.ret (.neg (.int (1)))]]] [], .asg 2 (.bin .Add (.loc 8) (.loc 7)), .asg 3 (.bin .Add (.loc 12) (.loc 11)), .ite (.loc 5) [.ite (.cmp .Lt (.loc 2) (.loc 3)) [.ret (.int (1))] [], .ite (.cmp .Gt (.loc 2) (.loc 3)) [.ret (.neg (.int (1)))] []] [.ite (.cmp .Lt (.loc 2) (.loc 3)) [.ret (.neg (.int (1)))] [], .ite (.cmp .Gt (.loc 2) (.loc 3)) [.ret (.int (1))] []], .asg 4 (.call ("mpf_sub" : Str) [(.loc 0), (.loc 1), (.int (5)), (.gstr ("round_floor" : Str) chF)]), .ite (.item (.loc 4) (.int (0))) [.ret (.neg (.int (1)))] [], .ret (.int (1))]
-- mpf_cmp: 0=s 1=t 2=a 3=b 4=delta 5=ssign 6=sman 7=sexp 8=sbc 9=tsign 10=tman 11=texp 12=tbc
def n_mpf_le : List Str := [("s" : Str), ("t" : Str)]
def b_mpf_le : List MS := [.ite (.or (.cmp .Eq (.loc 0) (.gtup ("fnan" : Str) [0, 0, -123, -1])) (.cmp .Eq (.loc 1) (.gtup ("fnan" : Str) [0, 0, -123, -1]))) [.ret (.bool false)] [], .ret (.cmp .LtE (.call ("mpf_cmp" : Str) [(.loc 0), (.loc 1)]) (.int (0)))]
-- mpf_le: 0=s 1=t
def n_mpf_pos : List Str := [("s" : Str), ("prec" : Str), ("rnd" : Str), ("sign" : Str), ("man" : Str), ("exp" : Str), ("bc" : Str)]
def b_mpf_pos : List MS := [.ite (.loc 1) [.asgT [3, 4, 5, 6] (.loc 0), .ite (.and (.not (.loc 4)) (.loc 5)) [.ret (.loc 0)] [], .ret (.call ("normalize" : Str) [(.loc 3), (.loc 4), (.loc 5), (.loc 6), (.loc 1), (.loc 2)])] [], .ret (.loc 0)]
-- mpf_pos: 0=s 1=prec 2=rnd 3=sign 4=man 5=exp 6=bc
def n_mpf_neg : List Str := [("s" : Str), ("prec" : Str), ("rnd" : Str), ("sign" : Str), ("man" : Str), ("exp" : Str), ("bc" : Str)]
def b_mpf_neg : List MS := [.asgT [3, 4, 5, 6] (.loc 0), .ite (.not (.loc 4)) [.ite (.loc 5) [.ite (.cmp .Eq (.loc 0) (.gtup ("finf" : Str) [0, 0, -456, -2])) [.ret (.gtup ("fninf" : Str) [1, 0, -789, -3])] [], .ite (.cmp .Eq (.loc 0) (.gtup ("fninf" : Str) [1, 0, -789, -3])) [.ret (.gtup ("finf" : Str) [0, 0, -456, -2])] []] [], .ret (.loc 0)] [], .ite (.not (.loc 1)) [.ret (.tup [(.bin .Sub (.int (1)) (.loc 3)), (.loc 4), (.loc 5), (.loc 6)])] [], .ret (.call ("normalize" : Str) [(.bin .Sub (.int (1)) (.loc 3)), (.loc 4), (.loc 5), (.loc 6), (.loc 1), (.loc 2)])]
-- mpf_neg: 0=s 1=prec 2=rnd 3=sign 4=man 5=exp 6=bc
def n_mpf_abs : List Str := [("s" : Str), ("prec" : Str), ("rnd" : Str), ("sign" : Str), ("man" : Str), ("exp" : Str), ("bc" : Str)]
def b_mpf_abs : List MS := [.asgT [3, 4, 5, 6] (.loc 0), .ite (.and (.not (.loc 4)) (.loc 5)) [.ite (.cmp .Eq (.loc 0) (.gtup ("fninf" : Str) [1, 0, -789, -3])) [.ret (.gtup ("finf" : Str) [0, 0, -456, -2])] [], .ret (.loc 0)] [], .ite (.not (.loc 1)) [.ite (.loc 3) [.ret (.tup [(.int (0)), (.loc 4), (.loc 5), (.loc 6)])] [], .ret (.loc 0)] [], .ret (.call ("normalize" : Str) [(.int (0)), (.loc 4), (.loc 5), (.loc 6), (.loc 1), (.loc 2)])]
-- mpf_abs: 0=s 1=prec 2=rnd 3=sign 4=man 5=exp 6=bc
def n_mpf_sign : List Str := [("s" : Str), ("sign" : Str), ("man" : Str), ("exp" : Str), ("bc" : Str)]
def b_mpf_sign : List MS := [.asgT [1, 2, 3, 4] (.loc 0), .ite (.not (.loc 2)) [.ite (.cmp .Eq (.loc 0) (.gtup ("finf" : Str) [0, 0, -456, -2])) [.ret (.int (1))] [], .ite (.cmp .Eq (.loc 0) (.gtup ("fninf" : Str) [1, 0, -789, -3])) [.ret (.neg (.int (1)))] [], .ret (.int (0))] [], .ret (.bin .Pow (.neg (.int (1))) (.loc 1))]
-- mpf_sign: 0=s 1=sign 2=man 3=exp 4=bc
def n_mpf_add : List Str := [("s" : Str), ("t" : Str), ("prec" : Str), ("rnd" : Str), ("_sub" : Str), ("tsign" : Str), ("ssign" : Str), ("sman" : Str), ("sexp" : Str), ("sbc" : Str), ("tman" : Str), ("texp" : Str), ("tbc" : Str), ("offset" : Str), ("bc" : Str), ("man" : Str), ("delta" : Str)]
def b_mpf_add : List MS := [.asgT [6, 7, 8, 9] (.loc 0), .asgT [5, 10, 11, 12] (.loc 1), .aug 5 .BitXor (.loc 4), .ite (.and (.loc 7) (.loc 10)) [.asg 13 (.bin .Sub (.loc 8) (.loc 11)), .ite (.loc 13) [.ite (.cmp .Gt (.loc 13) (.int (0))) [.ite (.and (.cmp .Gt (.loc 13) (.int (100))) (.loc 2)) [.asg 16 (.bin .Sub (.bin .Sub (.bin .Add (.loc 9) (.loc 8)) (.loc 12)) (.loc 11)), .ite (.cmp .Gt (.loc 16) (.bin .Add (.loc 2) (.int (4)))) [.asg 13 (.bin .Add (.loc 2) (.int (4))), .aug 7 .LShift (.loc 13), .ite (.cmp .Eq (.loc 5) (.loc 6)) [.aug 7 .Add (.int (1))] [.aug 7 .Sub (.int (1))], .ret (.call ("normalize" : Str) [(.loc 6), (.loc 7), (.bin .Sub (.loc 8) (.loc 13)), (.bl (.loc 7)), (.loc 2), (.loc 3)])] []] [], .ite (.cmp .Eq (.loc 6) (.loc 5)) [.asg 15 (.bin .Add (.loc 10) (.bin .LShift (.loc 7) (.loc 13)))] [.ite (.loc 6) [.asg 15 (.bin .Sub (.loc 10) (.bin .LShift (.loc 7) (.loc 13)))] [.asg 15 (.bin .Sub (.bin .LShift (.loc 7) (.loc 13)) (.loc 10))], .ite (.cmp .GtE (.loc 15) (.int (0))) [.asg 6 (.int (0))] [.asg 15 (.neg (.loc 15)), .asg 6 (.int (1))]], .asg 14 (.bl (.loc 15)), .ret (.call ("normalize" : Str) [(.loc 6), (.loc 15), (.loc 11), (.loc 14), (.or (.loc 2) (.loc 14)), (.loc 3)])] [.ite (.cmp .Lt (.loc 13) (.int (0))) [.ite (.and (.cmp .Lt (.loc 13) (.neg (.int (100)))) (.loc 2)) [.asg 16 (.bin .Sub (.bin .Sub (.bin .Add (.loc 12) (.loc 11)) (.loc 9)) (.loc 8)), .ite (.cmp .Gt (.loc 16) (.bin .Add (.loc 2) (.int (4)))) [.asg 13 (.bin .Add (.loc 2) (.int (4))), .aug 10 .LShift (.loc 13), .ite (.cmp .Eq (.loc 6) (.loc 5)) [.aug 10 .Add (.int (1))] [.aug 10 .Sub (.int (1))], .ret (.call ("normalize" : Str) [(.loc 5), (.loc 10), (.bin .Sub (.loc 11) (.loc 13)), (.bl (.loc 10)), (.loc 2), (.loc 3)])] []] [], .ite (.cmp .Eq (.loc 6) (.loc 5)) [.asg 15 (.bin .Add (.loc 7) (.bin .LShift (.loc 10) (.neg (.loc 13))))] [.ite (.loc 5) [.asg 15 (.bin .Sub (.loc 7) (.bin .LShift (.loc 10) (.neg (.loc 13))))] [.asg 15 (.bin .Sub (.bin .LShift (.loc 10) (.neg (.loc 13))) (.loc 7))], .ite (.cmp .GtE (.loc 15) (.int (0))) [.asg 6 (.int (0))] [.asg 15 (.neg (.loc 15)), .asg 6 (.int (1))]], .asg 14 (.bl (.loc 15)), .ret (.call ("normalize" : Str) [(.loc 6), (.loc 15), (.loc 8), (.loc 14), (.or (.loc 2) (.loc 14)), (.loc 3)])] []]] [], .ite (.cmp .Eq (.loc 6) (.loc 5)) [.asg 15 (.bin .Add (.loc 10) (.loc 7))] [.ite (.loc 6) [.asg 15 (.bin .Sub (.loc 10) (.loc 7))] [.asg 15 (.bin .Sub (.loc 7) (.loc 10))], .ite (.cmp .GtE (.loc 15) (.int (0))) [.asg 6 (.int (0))] [.asg 15 (.neg (.loc 15)), .asg 6 (.int (1))]], .asg 14 (.bl (.loc 15)), .ret (.call ("normalize" : Str) [(.loc 6), (.loc 15), (.loc 11), (.loc 14), (.or (.loc 2) (.loc 14)), (.loc 3)])] [], .ite (.loc 4) [.asg 1 (.call ("mpf_neg" : Str) [(.loc 1)])] [], .ite (.not (.loc 7)) [.ite (.loc 8) [.ite .bad [.ret (.loc 0)] [], .ret (.gtup ("fnan" : Str) [0, 0, -123, -1])] [], .ite (.loc 10) [.ret (.call ("normalize" : Str) [(.loc 5), (.loc 10), (.loc 11), (.loc 12), (.or (.loc 2) (.loc 12)), (.loc 3)])] [], .ret (.loc 1)] [], .ite (.loc 11) [.ret (.loc 1)] [], .ite (.loc 7) [.ret (.call ("normalize" : Str) [(.loc 6), (.loc 7), (.loc 8), (.loc 9), (.or (.loc 2) (.loc 9)), (.loc 3)])] [], .ret (.loc 0)]
-- mpf_add: 0=s 1=t 2=prec 3=rnd 4=_sub 5=tsign 6=ssign 7=sman 8=sexp 9=sbc 10=tman 11=texp 12=tbc 13=offset 14=bc 15=man 16=delta
def n_mpf_sub : List Str := [("s" : Str), ("t" : Str), ("prec" : Str), ("rnd" : Str)]
def b_mpf_sub : List MS := [.ret (.call ("mpf_add" : Str) [(.loc 0), (.loc 1), (.loc 2), (.loc 3), (.int (1))])]
-- mpf_sub: 0=s 1=t 2=prec 3=rnd
def n_mpf_mul : List Str := [("s" : Str), ("t" : Str), ("prec" : Str), ("rnd" : Str), ("sign" : Str), ("man" : Str), ("s_special" : Str), ("t_special" : Str), ("ssign" : Str), ("sman" : Str), ("sexp" : Str), ("sbc" : Str), ("tsign" : Str), ("tman" : Str), ("texp" : Str), ("tbc" : Str), ("bc" : Str)]
def b_mpf_mul : List MS := [.asgT [8, 9, 10, 11] (.loc 0), .asgT [12, 13, 14, 15] (.loc 1), .asg 4 (.bin .BitXor (.loc 8) (.loc 12)), .asg 5 (.bin .Mult (.loc 9) (.loc 13)), .ite (.loc 5) [.asg 16 (.bl (.loc 5)), .ite (.loc 2) [.ret (.call ("normalize" : Str) [(.loc 4), (.loc 5), (.bin .Add (.loc 10) (.loc 14)), (.loc 16), (.loc 2), (.loc 3)])] [.ret (.tup [(.loc 4), (.loc 5), (.bin .Add (.loc 10) (.loc 14)), (.loc 16)])]] [], .asg 6 (.and (.not (.loc 9)) (.loc 10)), .asg 7 (.and (.not (.loc 13)) (.loc 14)), .ite (.and (.not (.loc 6)) (.not (.loc 7))) [.ret (.gtup ("fzero" : Str) [0, 0, 0, 0])] [], .ite (.cmp .In (.gtup ("fnan" : Str) [0, 0, -123, -1]) (.tup [(.loc 0), (.loc 1)])) [.ret (.gtup ("fnan" : Str) [0, 0, -123, -1])] [], .ite (.and (.not (.loc 13)) (.loc 14)) [.asgW [0, 1] [(.loc 1), (.loc 0)]] [], .ite (.cmp .Eq (.loc 1) (.gtup ("fzero" : Str) [0, 0, 0, 0])) [.ret (.gtup ("fnan" : Str) [0, 0, -123, -1])] [], .ret (.item .bad (.bin .Mult (.call ("mpf_sign" : Str) [(.loc 0)]) (.call ("mpf_sign" : Str) [(.loc 1)])))]
-- mpf_mul: 0=s 1=t 2=prec 3=rnd 4=sign 5=man 6=s_special 7=t_special 8=ssign 9=sman 10=sexp 11=sbc 12=tsign 13=tman 14=texp 15=tbc 16=bc
def n_mpf_mul_int : List Str := [("s" : Str), ("n" : Str), ("prec" : Str), ("rnd" : Str), ("man" : Str), ("bc" : Str), ("sign" : Str), ("exp" : Str)]
def b_mpf_mul_int : List MS := [.asgT [6, 4, 7, 5] (.loc 0), .ite (.not (.loc 4)) [.ret (.call ("mpf_mul" : Str) [(.loc 0), (.call ("from_int" : Str) [(.loc 1)]), (.loc 2), (.loc 3)])] [], .ite (.not (.loc 1)) [.ret (.gtup ("fzero" : Str) [0, 0, 0, 0])] [], .ite (.cmp .Lt (.loc 1) (.int (0))) [.aug 6 .BitXor (.int (1)), .asg 1 (.neg (.loc 1))] [], .aug 4 .Mult (.loc 1), .aug 5 .Add (.bin .Sub (.bl (.loc 1)) (.int (1))), .aug 5 .Add (.bin .RShift (.loc 4) (.loc 5)), .ret (.call ("normalize" : Str) [(.loc 6), (.loc 4), (.loc 7), (.loc 5), (.loc 2), (.loc 3)])]
-- mpf_mul_int: 0=s 1=n 2=prec 3=rnd 4=man 5=bc 6=sign 7=exp
def n_mpf_shift : List Str := [("s" : Str), ("n" : Str), ("sign" : Str), ("man" : Str), ("exp" : Str), ("bc" : Str)]
def b_mpf_shift : List MS := [.asgT [2, 3, 4, 5] (.loc 0), .ite (.not (.loc 3)) [.ret (.loc 0)] [], .ret (.tup [(.loc 2), (.loc 3), (.bin .Add (.loc 4) (.loc 1)), (.loc 5)])]
-- mpf_shift: 0=s 1=n 2=sign 3=man 4=exp 5=bc
def n_mpf_div : List Str := [("s" : Str), ("t" : Str), ("prec" : Str), ("rnd" : Str), ("sign" : Str), ("bc" : Str), ("ssign" : Str), ("sman" : Str), ("sexp" : Str), ("sbc" : Str), ("tsign" : Str), ("tman" : Str), ("texp" : Str), ("tbc" : Str), ("s_special" : Str), ("t_special" : Str), ("extra" : Str), ("quot" : Str), ("rem" : Str)]
def b_mpf_div : List MS := [.asgT [6, 7, 8, 9] (.loc 0), .asgT [10, 11, 12, 13] (.loc 1), .ite (.or (.not (.loc 7)) (.not (.loc 11))) [.ite (.cmp .Eq (.loc 0) (.gtup ("fzero" : Str) [0, 0, 0, 0])) [.ite (.cmp .Eq (.loc 1) (.gtup ("fzero" : Str) [0, 0, 0, 0])) [.bad] [], .ite (.cmp .Eq (.loc 1) (.gtup ("fnan" : Str) [0, 0, -123, -1])) [.ret (.gtup ("fnan" : Str) [0, 0, -123, -1])] [], .ret (.gtup ("fzero" : Str) [0, 0, 0, 0])] [], .ite (.cmp .Eq (.loc 1) (.gtup ("fzero" : Str) [0, 0, 0, 0])) [.bad] [], .asg 14 (.and (.not (.loc 7)) (.loc 8)), .asg 15 (.and (.not (.loc 11)) (.loc 12)), .ite (.and (.loc 14) (.loc 15)) [.ret (.gtup ("fnan" : Str) [0, 0, -123, -1])] [], .ite (.or (.cmp .Eq (.loc 0) (.gtup ("fnan" : Str) [0, 0, -123, -1])) (.cmp .Eq (.loc 1) (.gtup ("fnan" : Str) [0, 0, -123, -1]))) [.ret (.gtup ("fnan" : Str) [0, 0, -123, -1])] [], .ite (.not (.loc 15)) [.ite (.cmp .Eq (.loc 1) (.gtup ("fzero" : Str) [0, 0, 0, 0])) [.ret (.gtup ("fnan" : Str) [0, 0, -123, -1])] [], .ret (.item .bad (.bin .Mult (.call ("mpf_sign" : Str) [(.loc 0)]) (.call ("mpf_sign" : Str) [(.loc 1)])))] [], .ret (.gtup ("fzero" : Str) [0, 0, 0, 0])] [], .asg 4 (.bin .BitXor (.loc 6) (.loc 10)), .ite (.cmp .Eq (.loc 11) (.int (1))) [.ret (.call ("normalize" : Str) [(.loc 4), (.loc 7), (.bin .Sub (.loc 8) (.loc 12)), (.loc 9), (.loc 2), (.loc 3)])] [], .ite (.not (.loc 2)) [.asg 16 (.bin .Add (.bin .Add (.bin .Sub (.mx (.loc 9) (.loc 13)) (.loc 9)) (.loc 13)) (.int (5)))] [.asg 16 (.bin .Add (.bin .Add (.bin .Sub (.loc 2) (.loc 9)) (.loc 13)) (.int (5)))], .ite (.cmp .Lt (.loc 16) (.int (5))) [.asg 16 (.int (5))] [], .asgT [17, 18] (.dvm (.bin .LShift (.loc 7) (.loc 16)) (.loc 11)), .ite (.loc 18) [.asg 17 (.bin .Add (.bin .LShift (.loc 17) (.int (1))) (.int (1))), .aug 16 .Add (.int (1))] [], .asg 5 (.bl (.loc 17)), .ret (.call ("normalize" : Str) [(.loc 4), (.loc 17), (.bin .Sub (.bin .Sub (.loc 8) (.loc 12)) (.loc 16)), (.loc 5), (.or (.loc 2) (.loc 5)), (.loc 3)])]
-- mpf_div: 0=s 1=t 2=prec 3=rnd 4=sign 5=bc 6=ssign 7=sman 8=sexp 9=sbc 10=tsign 11=tman 12=texp 13=tbc 14=s_special 15=t_special 16=extra 17=quot 18=rem
def n_mpf_rdiv_int : List Str := [("n" : Str), ("t" : Str), ("prec" : Str), ("rnd" : Str), ("extra" : Str), ("sign" : Str), ("man" : Str), ("exp" : Str), ("bc" : Str), ("quot" : Str), ("rem" : Str)]
def b_mpf_rdiv_int : List MS := [.asgT [5, 6, 7, 8] (.loc 1), .ite (.or (.not (.loc 0)) (.not (.loc 6))) [.ret (.call ("mpf_div" : Str) [(.call ("from_int" : Str) [(.loc 0)]), (.loc 1), (.loc 2), (.loc 3)])] [], .ite (.cmp .Lt (.loc 0) (.int (0))) [.aug 5 .BitXor (.int (1)), .asg 0 (.neg (.loc 0))] [], .asg 4 (.bin .Add (.bin .Add (.loc 2) (.loc 8)) (.int (5))), .asgT [9, 10] (.dvm (.bin .LShift (.loc 0) (.loc 4)) (.loc 6)), .ite (.loc 10) [.asg 9 (.bin .Add (.bin .LShift (.loc 9) (.int (1))) (.int (1))), .aug 4 .Add (.int (1)), .ret (.call ("normalize" : Str) [(.loc 5), (.loc 9), (.bin .Sub (.neg (.loc 7)) (.loc 4)), (.bl (.loc 9)), (.loc 2), (.loc 3)])] [], .ret (.call ("normalize" : Str) [(.loc 5), (.loc 9), (.bin .Sub (.neg (.loc 7)) (.loc 4)), (.bl (.loc 9)), (.loc 2), (.loc 3)])]
-- mpf_rdiv_int: 0=n 1=t 2=prec 3=rnd 4=extra 5=sign 6=man 7=exp 8=bc 9=quot 10=rem
def n_mpf_sqrt : List Str := [("s" : Str), ("prec" : Str), ("rnd" : Str), ("shift" : Str), ("sign" : Str), ("man" : Str), ("exp" : Str), ("bc" : Str), ("rem" : Str)]
def b_mpf_sqrt : List MS := [.asgT [4, 5, 6, 7] (.loc 0), .ite (.loc 4) [.bad] [], .ite (.not (.loc 5)) [.ret (.loc 0)] [], .ite (.bin .BitAnd (.loc 6) (.int (1))) [.aug 6 .Sub (.int (1)), .aug 5 .LShift (.int (1)), .aug 7 .Add (.int (1))] [.ite (.cmp .Eq (.loc 5) (.int (1))) [.ret (.call ("normalize" : Str) [(.loc 4), (.loc 5), (.bin .FloorDiv (.loc 6) (.int (2))), (.loc 7), (.loc 1), (.loc 2)])] []], .asg 3 (.mx (.int (4)) (.bin .Add (.bin .Sub (.bin .Mult (.int (2)) (.loc 1)) (.loc 7)) (.int (4)))), .aug 3 .Add (.bin .BitAnd (.loc 3) (.int (1))), .ite (.cmp .In (.loc 2) (.str ⟨#[102, 100]⟩)) [.asg 5 (.call ("isqrt" : Str) [(.bin .LShift (.loc 5) (.loc 3))])] [.asgT [5, 8] (.call ("sqrtrem" : Str) [(.bin .LShift (.loc 5) (.loc 3))]), .ite (.loc 8) [.asg 5 (.bin .Add (.bin .LShift (.loc 5) (.int (1))) (.int (1))), .aug 3 .Add (.int (2))] []], .ret (.call ("from_man_exp" : Str) [(.loc 5), (.bin .FloorDiv (.bin .Sub (.loc 6) (.loc 3)) (.int (2))), (.loc 1), (.loc 2)])]
-- mpf_sqrt: 0=s 1=prec 2=rnd 3=shift 4=sign 5=man 6=exp 7=bc 8=rem
def n_law_mixed : List Str := [("script" : Str), ("k" : Str), ("n" : Str)]
def b_law_mixed : List MS := [.asg 2 (.ife (.cmp .Lt (.loc 1) (.len (.loc 0))) (.item (.loc 0) (.loc 1)) (.int (0))), .ite (.cmp .GtE (.loc 2) (.bin .Pow (.int (2)) (.int (64)))) [.ret (.loc 2)] [], .ret (.bin .Mod (.bin .Add (.bin .Mult (.loc 2) (.int (6364136223846793005))) (.bin .Mult (.bin .Add (.loc 1) (.int (1))) (.int (1442695040888963407)))) (.bin .Pow (.int (2)) (.int (190))))]
-- law_mixed: 0=script 1=k 2=n
def n_law_raw : List Str := [("rich" : Str), ("bits" : Str), ("spread" : Str), ("man" : Str), ("kind" : Str), ("e" : Str), ("m" : Str)]
def b_law_raw : List MS := [.asgW [4, 5, 6] [(.bin .Mod (.bin .FloorDiv (.loc 0) (.int (2))) (.int (8))), (.bin .Sub (.bin .Mod (.bin .FloorDiv (.loc 0) (.int (16))) (.bin .Add (.bin .Mult (.int (2)) (.loc 2)) (.int (1)))) (.loc 2)), (.bin .FloorDiv (.loc 0) (.bin .Pow (.int (2)) (.int (16))))], .ite (.cmp .Eq (.loc 4) (.int (0))) [.ret (.tup [(.int (0)), (.int (0)), (.int (0)), (.int (0))])] [], .asg 3 (.bin .Add (.bin .Mult (.bin .FloorDiv (.bin .Mod (.loc 6) (.bin .Pow (.int (2)) (.bin .Add (.int (1)) (.bin .Mod (.loc 6) (.loc 1))))) (.int (2))) (.int (2))) (.int (1))), .ite (.cmp .Eq (.loc 4) (.int (1))) [.asg 3 (.int (1))] [.ite (.cmp .Eq (.loc 4) (.int (2))) [.asg 3 (.bin .Sub (.bin .Pow (.int (2)) (.bin .Add (.int (1)) (.bin .Mod (.loc 6) (.loc 1)))) (.int (1)))] [.ite (.and (.cmp .Eq (.loc 4) (.int (3))) (.cmp .Gt (.loc 1) (.int (1)))) [.asg 3 (.bin .Add (.bin .Pow (.int (2)) (.bin .Add (.int (1)) (.bin .Mod (.loc 6) (.bin .Sub (.loc 1) (.int (1)))))) (.int (1)))] []]], .ret (.tup [(.bin .Mod (.loc 0) (.int (2))), (.loc 3), (.loc 5), (.bl (.loc 3))])]
-- law_raw: 0=rich 1=bits 2=spread 3=man 4=kind 5=e 6=m
def n_law_done : List Str := [("kind" : Str), ("s" : Str), ("t" : Str), ("n" : Str), ("prec" : Str), ("rnd" : Str)]
def b_law_done : List MS := [.ite (.cmp .Eq (.loc 0) (.int (0))) [.ret (.call ("mpf_add" : Str) [(.loc 1), (.loc 2), (.loc 4), (.loc 5)])] [], .ite (.cmp .Eq (.loc 0) (.int (1))) [.ret (.call ("mpf_sub" : Str) [(.loc 1), (.loc 2), (.loc 4), (.loc 5)])] [], .ite (.cmp .Eq (.loc 0) (.int (2))) [.ret (.call ("mpf_mul" : Str) [(.loc 1), (.loc 2), (.loc 4), (.loc 5)])] [], .ite (.cmp .Eq (.loc 0) (.int (3))) [.ret (.call ("mpf_div" : Str) [(.loc 1), (.loc 2), (.loc 4), (.loc 5)])] [], .ite (.cmp .Eq (.loc 0) (.int (4))) [.ret (.call ("mpf_sqrt" : Str) [(.call ("mpf_abs" : Str) [(.loc 1)]), (.loc 4), (.loc 5)])] [], .ite (.cmp .Eq (.loc 0) (.int (5))) [.ret (.call ("mpf_mul_int" : Str) [(.loc 1), (.loc 3), (.loc 4), (.loc 5)])] [], .ret (.call ("mpf_rdiv_int" : Str) [(.loc 3), (.loc 2), (.loc 4), (.loc 5)])]
-- law_done: 0=kind 1=s 2=t 3=n 4=prec 5=rnd
def n_law_steps_right : List Str := [("kind" : Str), ("s" : Str), ("t" : Str), ("n" : Str), ("prec" : Str), ("more" : Str), ("rnd" : Str), ("near" : Str), ("once" : Str)]
def b_law_steps_right : List MS := [.forS 6 ⟨#[102, 99, 100, 117]⟩ [.asg 8 (.call ("_law_done" : Str) [(.loc 0), (.loc 1), (.loc 2), (.loc 3), (.loc 4), (.loc 6)]), .ite (.cmp .NotEq (.call ("mpf_pos" : Str) [(.call ("_law_done" : Str) [(.loc 0), (.loc 1), (.loc 2), (.loc 3), (.bin .Add (.loc 4) (.loc 5)), (.loc 6)]), (.loc 4), (.loc 6)]) (.loc 8)) [.ret (.bool false)] [], .ite (.not (.all (.comp (.text ⟨#[110, 102, 99, 100, 117]⟩) ("other" : Str) (.cmp .Eq (.call ("mpf_pos" : Str) [(.loc 9), (.loc 5), (.loc 0)]) (.loc 9))))) [.ret (.bool false)] []], .asg 7 (.call ("mpf_pos" : Str) [(.call ("_law_done" : Str) [(.loc 0), (.loc 1), (.loc 2), (.loc 3), (.bin .Add (.loc 4) (.loc 5)), (.str chN)]), (.loc 4), (.str chN)]), .ret (.cmp .In (.loc 7) (.lst [(.call ("_law_done" : Str) [(.loc 0), (.loc 1), (.loc 2), (.loc 3), (.loc 4), (.str chF)]), (.call ("_law_done" : Str) [(.loc 0), (.loc 1), (.loc 2), (.loc 3), (.loc 4), (.str chC)])]))]
-- law_steps_right: 0=kind 1=s 2=t 3=n 4=prec 5=more 6=rnd 7=near 8=once
def n_law_moved_right : List Str := [("kind" : Str), ("s" : Str), ("t" : Str), ("n" : Str), ("prec" : Str), ("rnd" : Str), ("by" : Str), ("due" : Str)]
def b_law_moved_right : List MS := [.asg 7 (.call ("mpf_shift" : Str) [(.call ("_law_done" : Str) [(.loc 0), (.loc 1), (.loc 2), (.loc 3), (.loc 4), (.loc 5)]), (.loc 6)]), .ite (.cmp .Lt (.loc 0) (.int (2))) [.ret (.cmp .Eq (.call ("_law_done" : Str) [(.loc 0), (.call ("mpf_shift" : Str) [(.loc 1), (.loc 6)]), (.call ("mpf_shift" : Str) [(.loc 2), (.loc 6)]), (.loc 3), (.loc 4), (.loc 5)]) (.loc 7))] [], .ite (.cmp .Eq (.loc 0) (.int (4))) [.ret (.cmp .Eq (.call ("_law_done" : Str) [(.loc 0), (.call ("mpf_shift" : Str) [(.loc 1), (.bin .Mult (.int (2)) (.loc 6))]), (.loc 2), (.loc 3), (.loc 4), (.loc 5)]) (.loc 7))] [], .ite (.cmp .Eq (.loc 0) (.int (6))) [.ret (.cmp .Eq (.call ("_law_done" : Str) [(.loc 0), (.loc 1), (.call ("mpf_shift" : Str) [(.loc 2), (.neg (.loc 6))]), (.loc 3), (.loc 4), (.loc 5)]) (.loc 7))] [], .ret (.cmp .Eq (.call ("_law_done" : Str) [(.loc 0), (.call ("mpf_shift" : Str) [(.loc 1), (.loc 6)]), (.loc 2), (.loc 3), (.loc 4), (.loc 5)]) (.loc 7))]
-- law_moved_right: 0=kind 1=s 2=t 3=n 4=prec 5=rnd 6=by 7=due
def n_law_order_right : List Str := [("kind" : Str), ("s" : Str), ("other" : Str), ("t" : Str), ("n" : Str), ("prec" : Str), ("rnd" : Str), ("low" : Str), ("high" : Str)]
def b_law_order_right : List MS := [.ite (.cmp .Eq (.loc 0) (.int (4))) [.asgW [1, 2] [(.call ("mpf_abs" : Str) [(.loc 1)]), (.call ("mpf_abs" : Str) [(.loc 2)])]] [], .asgT [7, 8] (.ife (.cmp .LtE (.call ("mpf_cmp" : Str) [(.loc 1), (.loc 2)]) (.int (0))) (.tup [(.loc 1), (.loc 2)]) (.tup [(.loc 2), (.loc 1)])), .ite (.or (.cmp .Eq (.loc 0) (.int (2))) (.cmp .Eq (.loc 0) (.int (3)))) [.ite (.cmp .Lt (.call ("mpf_sign" : Str) [(.loc 3)]) (.int (0))) [.asgW [7, 8] [(.loc 8), (.loc 7)]] []] [], .ite (.and (.cmp .Eq (.loc 0) (.int (5))) (.cmp .Lt (.loc 4) (.int (0)))) [.asgW [7, 8] [(.loc 8), (.loc 7)]] [], .ret (.call ("mpf_le" : Str) [(.call ("_law_done" : Str) [(.loc 0), (.loc 7), (.loc 3), (.loc 4), (.loc 5), (.loc 6)]), (.call ("_law_done" : Str) [(.loc 0), (.loc 8), (.loc 3), (.loc 4), (.loc 5), (.loc 6)])])]
-- law_order_right: 0=kind 1=s 2=other 3=t 4=n 5=prec 6=rnd 7=low 8=high
def n_law : List Str := [("script" : Str), ("rnd" : Str), ("first" : Str), ("more" : Str), ("kind" : Str), ("prec" : Str), ("by" : Str), ("s" : Str), ("other" : Str), ("t" : Str), ("n" : Str), ("extra" : Str)]
def b_law : List MS := [.asgW [2, 3] [(.call ("_law_mixed" : Str) [(.loc 0), (.int (0))]), (.call ("_law_mixed" : Str) [(.loc 0), (.int (4))])], .asgW [4, 5, 6] [(.bin .Mod (.loc 2) (.int (7))), (.bin .Add (.int (30)) (.bin .Mod (.bin .FloorDiv (.loc 2) (.int (7))) (.int (40)))), (.bin .Sub (.bin .Mod (.bin .FloorDiv (.loc 2) (.int (280))) (.int (101))) (.int (50)))], .asgT [7, 8, 9] (.comp (.range 3) ("k" : Str) (.call ("_law_raw" : Str) [(.call ("_law_mixed" : Str) [(.loc 1), (.bin .Add (.int (1)) (.loc 0))]), (.int (30)), (.int (90))])), .ite (.and (.cmp .Eq (.item (.loc 9) (.int (1))) (.int (0))) (.cmp .In (.loc 4) (.lst [(.int (3)), (.int (6))]))) [.asg 9 (.tup [(.int (1)), (.int (5)), (.int (0)), (.int (3))])] [], .ite (.and (.cmp .Eq (.bin .Mod (.bin .FloorDiv (.loc 2) (.int (30000))) (.int (2))) (.int (0))) (.cmp .Gt (.item (.loc 7) (.int (1))) (.int (0)))) [.asg 8 (.call ("mpf_add" : Str) [(.loc 7), (.tup [(.item (.loc 8) (.int (0))), (.int (1)), (.bin .Sub (.item (.loc 7) (.int (2))) (.int (3))), (.int (1))])]), .asg 9 (.ife (.and (.cmp .Lt (.loc 4) (.int (2))) (.cmp .Gt (.item (.loc 9) (.int (1))) (.int (0)))) (.tup [(.item (.loc 9) (.int (0))), (.item (.loc 9) (.int (1))), (.bin .Add (.bin .Sub (.item (.loc 7) (.int (2))) (.loc 5)) (.bin .Mod (.loc 3) (.int (6)))), (.item (.loc 9) (.int (3)))]) (.loc 9))] [], .ite (.cmp .Gt (.item (.loc 8) (.int (3))) (.int (30))) [.asg 8 (.call ("mpf_pos" : Str) [(.loc 8), (.int (30)), (.str chD)])] [], .asgW [10, 11] [(.bin .Sub (.bin .Mod (.bin .FloorDiv (.loc 3) (.int (6))) (.bin .Add (.bin .Pow (.int (2)) (.int (41))) (.int (1)))) (.bin .Pow (.int (2)) (.int (40)))), (.bin .Mod (.bin .FloorDiv (.loc 3) (.bin .Pow (.int (2)) (.int (44)))) (.int (41)))], .ite (.not (.call ("_law_steps_right" : Str) [(.loc 4), (.loc 7), (.loc 9), (.loc 10), (.loc 5), (.loc 11)])) [.ret (.bool false)] [], .forS 1 ⟨#[110, 102, 99, 100, 117]⟩ [.ite (.not (.call ("_law_moved_right" : Str) [(.loc 4), (.loc 7), (.loc 9), (.loc 10), (.loc 5), (.loc 1), (.loc 6)])) [.ret (.bool false)] [], .ite (.and (.cmp .NotEq (.loc 4) (.int (6))) (.not (.call ("_law_order_right" : Str) [(.loc 4), (.loc 7), (.loc 8), (.loc 9), (.loc 10), (.loc 5), (.loc 1)]))) [.ret (.bool false)] []], .ret (.bool true)]
-- law: 0=script 1=rnd 2=first 3=more 4=kind 5=prec 6=by 7=s 8=other 9=t 10=n 11=extra
section
theorem k_trailing (P : Params) : fnChk (Mine.hd.heap_39 P) ("trailing" : Str) n_trailing b_trailing = true := by kernel_rfl
theorem k_isqrt_small (P : Params) : fnChk (Mine.hd.heap_39 P) ("isqrt_small" : Str) n_isqrt_small b_isqrt_small = true := by kernel_rfl
theorem k_sqrtrem (P : Params) : fnChk (Mine.hd.heap_39 P) ("sqrtrem" : Str) n_sqrtrem b_sqrtrem = true := by kernel_rfl
theorem k_isqrt (P : Params) : fnChk (Mine.hd.heap_39 P) ("isqrt" : Str) n_isqrt b_isqrt = true := by kernel_rfl
theorem k_norm0 (P : Params) : fnChk (Mine.hd.heap_39 P) ("_normalize" : Str) n_norm0 b_norm0 = true := by kernel_rfl
theorem k_normalize (P : Params) : fnChk (Mine.hd.heap_39 P) ("normalize" : Str) n_normalize b_normalize = true := by kernel_rfl
theorem k_from_man_exp (P : Params) : fnChk (Mine.hd.heap_39 P) ("from_man_exp" : Str) n_from_man_exp b_from_man_exp = true := by kernel_rfl
theorem k_from_int (P : Params) : fnChk (Mine.hd.heap_39 P) ("from_int" : Str) n_from_int b_from_int = true := by kernel_rfl
theorem k_mpf_cmp (P : Params) : fnChk (Mine.hd.heap_39 P) ("mpf_cmp" : Str) n_mpf_cmp b_mpf_cmp = true := by kernel_rfl
theorem k_mpf_le (P : Params) : fnChk (Mine.hd.heap_39 P) ("mpf_le" : Str) n_mpf_le b_mpf_le = true := by kernel_rfl
theorem k_mpf_pos (P : Params) : fnChk (Mine.hd.heap_39 P) ("mpf_pos" : Str) n_mpf_pos b_mpf_pos = true := by kernel_rfl
theorem k_mpf_neg (P : Params) : fnChk (Mine.hd.heap_39 P) ("mpf_neg" : Str) n_mpf_neg b_mpf_neg = true := by kernel_rfl
theorem k_mpf_abs (P : Params) : fnChk (Mine.hd.heap_39 P) ("mpf_abs" : Str) n_mpf_abs b_mpf_abs = true := by kernel_rfl
theorem k_mpf_sign (P : Params) : fnChk (Mine.hd.heap_39 P) ("mpf_sign" : Str) n_mpf_sign b_mpf_sign = true := by kernel_rfl
theorem k_mpf_add (P : Params) : fnChk (Mine.hd.heap_39 P) ("mpf_add" : Str) n_mpf_add b_mpf_add = true := by kernel_rfl
theorem k_mpf_sub (P : Params) : fnChk (Mine.hd.heap_39 P) ("mpf_sub" : Str) n_mpf_sub b_mpf_sub = true := by kernel_rfl
theorem k_mpf_mul (P : Params) : fnChk (Mine.hd.heap_39 P) ("mpf_mul" : Str) n_mpf_mul b_mpf_mul = true := by kernel_rfl
theorem k_mpf_mul_int (P : Params) : fnChk (Mine.hd.heap_39 P) ("mpf_mul_int" : Str) n_mpf_mul_int b_mpf_mul_int = true := by kernel_rfl
theorem k_mpf_shift (P : Params) : fnChk (Mine.hd.heap_39 P) ("mpf_shift" : Str) n_mpf_shift b_mpf_shift = true := by kernel_rfl
theorem k_mpf_div (P : Params) : fnChk (Mine.hd.heap_39 P) ("mpf_div" : Str) n_mpf_div b_mpf_div = true := by kernel_rfl
theorem k_mpf_rdiv_int (P : Params) : fnChk (Mine.hd.heap_39 P) ("mpf_rdiv_int" : Str) n_mpf_rdiv_int b_mpf_rdiv_int = true := by kernel_rfl
theorem k_mpf_sqrt (P : Params) : fnChk (Mine.hd.heap_39 P) ("mpf_sqrt" : Str) n_mpf_sqrt b_mpf_sqrt = true := by kernel_rfl
theorem k_law_mixed (P : Params) : fnChk (Mine.hd.heap_39 P) ("_law_mixed" : Str) n_law_mixed b_law_mixed = true := by kernel_rfl
theorem k_law_raw (P : Params) : fnChk (Mine.hd.heap_39 P) ("_law_raw" : Str) n_law_raw b_law_raw = true := by kernel_rfl
theorem k_law_done (P : Params) : fnChk (Mine.hd.heap_39 P) ("_law_done" : Str) n_law_done b_law_done = true := by kernel_rfl
theorem k_law_steps_right (P : Params) : fnChk (Mine.hd.heap_39 P) ("_law_steps_right" : Str) n_law_steps_right b_law_steps_right = true := by kernel_rfl
theorem k_law_moved_right (P : Params) : fnChk (Mine.hd.heap_39 P) ("_law_moved_right" : Str) n_law_moved_right b_law_moved_right = true := by kernel_rfl
theorem k_law_order_right (P : Params) : fnChk (Mine.hd.heap_39 P) ("_law_order_right" : Str) n_law_order_right b_law_order_right = true := by kernel_rfl
theorem k_law (P : Params) : fnChk (Mine.hd.heap_39 P) ("law" : Str) n_law b_law = true := by kernel_rfl
end
end Mine

end

section
set_option linter.unusedVariables false
namespace Mine

theorem pow_pos2 (k : Nat) : (0 : Int) < 2 ^ k := by
  have : (0 : Int) < 2 := by decide
  exact Int.pow_pos this
theorem pow_add2 (a b : Nat) : (2 : Int) ^ (a + b) = 2 ^ a * 2 ^ b := Int.pow_add ..
theorem pow_le2 {a b : Nat} (h : a ≤ b) : (2 : Int) ^ a ≤ 2 ^ b := by
  obtain ⟨c, rfl⟩ := Nat.le.dest h
  rw [pow_add2]
  have h1 := pow_pos2 a
  have h2 : (1 : Int) ≤ 2 ^ c := by have := pow_pos2 c; omega
  calc (2 : Int) ^ a = 2 ^ a * 1 := (Int.mul_one _).symm
    _ ≤ 2 ^ a * 2 ^ c := Int.mul_le_mul_of_nonneg_left h2 (by omega)

/-- a number of p binary digits at most, an even one -/
def Fits (p : Nat) (X : Int) : Prop := ∃ (A : Int) (k : Nat), X = A * 2 ^ (k + 1) ∧ -(2 ^ p) ≤ A ∧ A ≤ 2 ^ p
theorem Fits.mono {p q : Nat} {X : Int} (h : Fits p X) (hpq : p ≤ q) : Fits q X := by
  obtain ⟨A, k, e, h1, h2⟩ := h
  have := pow_le2 hpq
  exact ⟨A, k, e, by omega, by omega⟩
theorem Fits.zero (p : Nat) : Fits p 0 := ⟨0, 0, by simp, by have := pow_pos2 p; omega, by have := pow_pos2 p; omega⟩
theorem Fits.neg {p : Nat} {X : Int} (h : Fits p X) : Fits p (-X) := by
  obtain ⟨A, k, e, h1, h2⟩ := h
  exact ⟨-A, k, by rw [e, Int.neg_mul], by omega, by omega⟩

structure Cut where
  L : Int → Prop
  U : Int → Prop
  tot : ∀ X, L X ∨ U X
  sep : ∀ {X Y}, L X → U Y → X ≤ Y
  Ld : ∀ {X Y}, L X → Y ≤ X → L Y
  Uu : ∀ {X Y}, U X → X ≤ Y → U Y

/-- the cut of a whole number -/
def ex (x : Int) : Cut where
  L X := X ≤ x
  U X := x ≤ X
  tot X := by omega
  sep := fun h k => by omega
  Ld := fun h k => by omega
  Uu := fun h k => by omega

def isFloor (p : Nat) (C : Cut) (r : Int) : Prop := Fits p r ∧ C.L r ∧ ∀ Y, Fits p Y → C.L Y → Y ≤ r
def isCeil (p : Nat) (C : Cut) (r : Int) : Prop := Fits p r ∧ C.U r ∧ ∀ Y, Fits p Y → C.U Y → r ≤ Y
/-- to which side the middle goes -/
def tieDown (m : Int) : Prop := ∃ (q : Int) (k : Nat), m = q * 2 ^ k ∧ q % 4 = 1
def isNear (p : Nat) (C : Cut) (r : Int) : Prop := ∃ a b m, isFloor p C a ∧ isCeil p C b ∧ Fits (p + 1) m ∧ a + b = 2 * m ∧
  ((r = a ∧ C.U m ∧ (C.L m → a = b ∨ tieDown m)) ∨ (r = b ∧ C.L m ∧ (C.U m → a = b ∨ ¬ tieDown m)))

inductive Mode where
  | n | f | c | d | u
def Rnd (p : Nat) (C : Cut) (r : Int) : Mode → Prop
  | .n => isNear p C r
  | .f => isFloor p C r
  | .c => isCeil p C r
  | .d => (C.L 0 → isFloor p C r) ∧ (C.U 0 → isCeil p C r)
  | .u => (C.L 0 → isCeil p C r) ∧ (C.U 0 → isFloor p C r)

theorem isFloor.uniq {p : Nat} {C : Cut} {r r' : Int} (h : isFloor p C r) (k : isFloor p C r') : r = r' := by
  have := h.2.2 r' k.1 k.2.1
  have := k.2.2 r h.1 h.2.1
  omega
theorem isCeil.uniq {p : Nat} {C : Cut} {r r' : Int} (h : isCeil p C r) (k : isCeil p C r') : r = r' := by
  have := h.2.2 r' k.1 k.2.1
  have := k.2.2 r h.1 h.2.1
  omega
theorem floor_le_ceil {p : Nat} {C : Cut} {r r' : Int} (h : isFloor p C r) (k : isCeil p C r') : r ≤ r' := C.sep h.2.1 k.2.1
/-- one cut lies at or below another -/
def Cut.le (C D : Cut) : Prop := (∀ X, C.L X → D.L X) ∧ (∀ X, D.U X → C.U X)
theorem Cut.le_refl (C : Cut) : C.le C := ⟨fun _ h => h, fun _ h => h⟩

theorem floor_mono {p : Nat} {C D : Cut} {r r' : Int} (hl : C.le D) (h : isFloor p C r) (k : isFloor p D r') : r ≤ r' := k.2.2 r h.1 (hl.1 r h.2.1)
theorem ceil_mono {p : Nat} {C D : Cut} {r r' : Int} (hl : C.le D) (h : isCeil p C r) (k : isCeil p D r') : r ≤ r' := h.2.2 r' k.1 (hl.2 r' k.2.1)
/-- between two floors lies a number -/
theorem ceil_le_floor {p : Nat} {C D : Cut} {a b a' b' : Int} (hl : C.le D) (ha : isFloor p C a) (hb : isCeil p C b) (ha' : isFloor p D a') (hb' : isCeil p D b') (h : a ≠ a' ∨ b ≠ b') : b ≤ a' := by
  have h1 := floor_mono hl ha ha'
  have h2 := ceil_mono hl hb hb'
  by_cases q : a < a'
  · rcases C.tot a' with z | z
    · have := ha.2.2 a' ha'.1 z; omega
    · exact hb.2.2 a' ha'.1 z
  · have q2 : b < b' := by omega
    rcases D.tot b with z | z
    · exact ha'.2.2 b hb.1 z
    · have := hb'.2.2 b hb.1 z; omega

theorem isNear.mem {p : Nat} {C : Cut} {r a b : Int} (h : isNear p C r) (ha : isFloor p C a) (hb : isCeil p C b) : r = a ∨ r = b := by
  obtain ⟨a', b', m, h1, h2, _, _, h3⟩ := h
  rw [h1.uniq ha, h2.uniq hb] at h3
  rcases h3 with h3 | h3
  · exact .inl h3.1
  · exact .inr h3.1
theorem isNear.fits {p : Nat} {C : Cut} {r : Int} (h : isNear p C r) : Fits p r := by
  obtain ⟨a, b, m, h1, h2, _, _, h3⟩ := h
  rcases h3 with ⟨rfl, _⟩ | ⟨rfl, _⟩
  · exact h1.1
  · exact h2.1
theorem isNear.ends {p : Nat} {C : Cut} {r : Int} (h : isNear p C r) : ∃ a b, isFloor p C a ∧ isCeil p C b ∧ (r = a ∨ r = b) := by
  obtain ⟨a, b, m, h1, h2, _, _, h3⟩ := h
  exact ⟨a, b, h1, h2, h3.imp (·.1) (·.1)⟩

theorem near_mono {p : Nat} {C D : Cut} {r r' : Int} (hl : C.le D) (h : isNear p C r) (k : isNear p D r') : r ≤ r' := by
  obtain ⟨a, b, m, h1, h2, h0, h3, h4⟩ := h
  obtain ⟨a', b', m', k1, k2, k0, k3, k4⟩ := k
  have hab := floor_le_ceil h1 h2
  have kab := floor_le_ceil k1 k2
  by_cases q : a ≠ a' ∨ b ≠ b'
  · have := ceil_le_floor hl h1 h2 k1 k2 q
    rcases h4 with h4 | h4 <;> rcases k4 with k4 | k4 <;> omega
  · have q1 : a = a' := by omega
    have q2 : b = b' := by omega
    subst q1; subst q2
    have : m = m' := by omega
    subst this
    rcases h4 with ⟨e1, h5, h6⟩ | ⟨e1, h5, h6⟩ <;> rcases k4 with ⟨e2, k5, k6⟩ | ⟨e2, k5, k6⟩
    · omega
    · omega
    · -- r = b, r' = a
      have hU : C.U m := hl.2 m k5
      have kL : D.L m := hl.1 m h5
      rcases h6 hU with z | z
      · omega
      · rcases k6 kL with y | y
        · omega
        · exact absurd y z
    · omega

theorem Rnd.fits {p : Nat} {C : Cut} {r : Int} : ∀ {m : Mode}, Rnd p C r m → Fits p r
  | .n, h => isNear.fits h
  | .f, h => h.1
  | .c, h => h.1
  | .d, h => (C.tot 0).elim (fun z => (h.1 z).1) fun z => (h.2 z).1
  | .u, h => (C.tot 0).elim (fun z => (h.1 z).1) fun z => (h.2 z).1

/-- the order is kept -/
theorem Rnd.le {p : Nat} {C D : Cut} {r r' : Int} (hl : C.le D) : ∀ {m : Mode}, Rnd p C r m → Rnd p D r' m → r ≤ r'
  | .n, h, k => near_mono hl h k
  | .f, h, k => floor_mono hl h k
  | .c, h, k => ceil_mono hl h k
  | .d, h, k => by
    rcases C.tot 0 with z | z
    · exact floor_mono hl (h.1 z) (k.1 (hl.1 _ z))
    · rcases D.tot 0 with y | y
      · have h1 := (h.2 z).2.2 0 (Fits.zero p) z
        have h2 := (k.1 y).2.2 0 (Fits.zero p) y
        omega
      · exact ceil_mono hl (h.2 z) (k.2 y)
  | .u, h, k => by
    rcases C.tot 0 with z | z
    · exact ceil_mono hl (h.1 z) (k.1 (hl.1 _ z))
    · rcases D.tot 0 with y | y
      · have h1 := (h.2 z)
        have h2 := (k.1 y)
        have h3 : r ≤ 0 := C.sep h1.2.1 z
        have h4 : 0 ≤ r' := D.sep y h2.2.1
        omega
      · exact floor_mono hl (h.2 z) (k.2 y)
theorem Rnd.uniq {p : Nat} {C : Cut} {r r' : Int} {m : Mode} (h : Rnd p C r m) (k : Rnd p C r' m) : r = r' := by
  have := h.le (Cut.le_refl C) k
  have := k.le (Cut.le_refl C) h
  omega

theorem floor_ex {p : Nat} {r : Int} (h : Fits p r) : isFloor p (ex r) r := ⟨h, Int.le_refl _, fun _ _ z => z⟩
theorem ceil_ex {p : Nat} {r : Int} (h : Fits p r) : isCeil p (ex r) r := ⟨h, Int.le_refl _, fun _ _ z => z⟩
theorem near_ex {p : Nat} {r : Int} (h : Fits p r) : isNear p (ex r) r := ⟨r, r, r, floor_ex h, ceil_ex h, h.mono (Nat.le_succ _), by omega, .inl ⟨rfl, Int.le_refl _, fun _ => .inl rfl⟩⟩
/-- what fits is left as it is -/
theorem Rnd.ex {p : Nat} {r : Int} (h : Fits p r) : ∀ m : Mode, Rnd p (ex r) r m
  | .n => near_ex h
  | .f => floor_ex h
  | .c => ceil_ex h
  | .d => ⟨fun _ => floor_ex h, fun _ => ceil_ex h⟩
  | .u => ⟨fun _ => ceil_ex h, fun _ => floor_ex h⟩

theorem floor_two {p q : Nat} {C : Cut} {y r : Int} (hpq : p ≤ q) (h : isFloor q C y) (k : isFloor p (ex y) r) : isFloor p C r :=
  ⟨k.1, C.Ld h.2.1 k.2.1, fun Y hY hL => k.2.2 Y hY (h.2.2 Y (hY.mono hpq) hL)⟩
theorem ceil_two {p q : Nat} {C : Cut} {y r : Int} (hpq : p ≤ q) (h : isCeil q C y) (k : isCeil p (ex y) r) : isCeil p C r :=
  ⟨k.1, C.Uu h.2.1 k.2.1, fun Y hY hU => k.2.2 Y hY (h.2.2 Y (hY.mono hpq) hU)⟩
/-- two steps are one, but to the nearest -/
theorem Rnd.two {p q : Nat} {C : Cut} {y r : Int} (hpq : p ≤ q) : ∀ {m : Mode}, m ≠ .n → Rnd q C y m → Rnd p (Mine.ex y) r m → Rnd p C r m
  | .n, hm, _, _ => absurd rfl hm
  | .f, _, h, k => floor_two hpq h k
  | .c, _, h, k => ceil_two hpq h k
  | .d, _, h, k => by
    refine ⟨fun z => ?_, fun z => ?_⟩
    · have h1 := h.1 z
      have : 0 ≤ y := h1.2.2 0 (Fits.zero q) z
      exact floor_two hpq h1 (k.1 this)
    · have h1 := h.2 z
      have : y ≤ 0 := h1.2.2 0 (Fits.zero q) z
      exact ceil_two hpq h1 (k.2 this)
  | .u, _, h, k => by
    refine ⟨fun z => ?_, fun z => ?_⟩
    · have h1 := h.1 z
      have : 0 ≤ y := C.sep z h1.2.1
      exact ceil_two hpq h1 (k.1 this)
    · have h1 := h.2 z
      have : y ≤ 0 := C.sep h1.2.1 z
      exact floor_two hpq h1 (k.2 this)
theorem near_two {p q : Nat} {C : Cut} {y r a b : Int} (hpq : p ≤ q) (h : isNear q C y) (k : isNear p (ex y) r) (ha : isFloor p C a) (hb : isCeil p C b) : r = a ∨ r = b := by
  obtain ⟨a1, b1, h1, h2, h3⟩ := h.ends
  obtain ⟨a2, b2, k1, k2, k3⟩ := k.ends
  have e1 : a ≤ a1 := h1.2.2 a (ha.1.mono hpq) ha.2.1
  have e2 : b1 ≤ b := h2.2.2 b (hb.1.mono hpq) hb.2.1
  have e3 := floor_le_ceil h1 h2
  have e4 : a ≤ a2 := k1.2.2 a ha.1 (by show a ≤ y; omega)
  have e5 : b2 ≤ b := k2.2.2 b hb.1 (by show y ≤ b; omega)
  have e6 := floor_le_ceil k1 k2
  have hr : Fits p r := k.fits
  have : a ≤ r ∧ r ≤ b := by omega
  rcases C.tot r with z | z
  · have := ha.2.2 r hr z; omega
  · have := hb.2.2 r hr z; omega

/-- another number that no number of p + 1 digits tells from the cut -/
theorem Rnd.stands {p : Nat} {C : Cut} {y r : Int} (hs : ∀ Z, Fits (p + 1) Z → (C.L Z ↔ Z ≤ y) ∧ (C.U Z ↔ y ≤ Z)) : ∀ {m : Mode}, Rnd p (Mine.ex y) r m → Rnd p C r m := by
  have hp : ∀ {Z}, Fits p Z → (C.L Z ↔ Z ≤ y) ∧ (C.U Z ↔ y ≤ Z) := fun h => hs _ (h.mono (Nat.le_succ _))
  have fl : ∀ {r}, isFloor p (Mine.ex y) r → isFloor p C r := fun h => ⟨h.1, (hp h.1).1.mpr h.2.1, fun Y hY hL => h.2.2 Y hY ((hp hY).1.mp hL)⟩
  have ce : ∀ {r}, isCeil p (Mine.ex y) r → isCeil p C r := fun h => ⟨h.1, (hp h.1).2.mpr h.2.1, fun Y hY hU => h.2.2 Y hY ((hp hY).2.mp hU)⟩
  have z := hp (Fits.zero p)
  intro m h
  cases m with
  | n =>
    obtain ⟨a, b, m, h1, h2, h0, h3, h4⟩ := h
    refine ⟨a, b, m, fl h1, ce h2, h0, h3, ?_⟩
    rcases h4 with ⟨e, h5, h6⟩ | ⟨e, h5, h6⟩
    · exact .inl ⟨e, (hs m h0).2.mpr h5, fun q => h6 ((hs m h0).1.mp q)⟩
    · exact .inr ⟨e, (hs m h0).1.mpr h5, fun q => h6 ((hs m h0).2.mp q)⟩
  | f => exact fl h
  | c => exact ce h
  | d => exact ⟨fun q => fl (h.1 (z.1.mp q)), fun q => ce (h.2 (z.2.mp q))⟩
  | u => exact ⟨fun q => ce (h.1 (z.1.mp q)), fun q => fl (h.2 (z.2.mp q))⟩
end Mine

end

section
open PySem PySem.Calls
set_option maxRecDepth 100000
set_option linter.unusedVariables false
set_option linter.unusedSimpArgs false
namespace Mine

section
variable {ok : Str → List D → D → Prop} {ρ ρ' : Rho} {ms a b : List MS} {e c : ME} {es : List ME} {N : Rho → Prop} {R : D → Prop} {i : Nat} {l : List Nat} {x y z : D} {ds : List D}
theorem st_asg (h1 : wpE ok ρ e (· = x)) (hs : ρ.set i (some x) = ρ') (h2 : wpSs ok ρ' ms N R) : wpSs ok ρ (.asg i e :: ms) N R := by
  subst hs
  unfold wpSs wpS
  exact wpE_mono e (fun d hd => by subst hd; exact h2) h1
theorem st_asgT (h1 : wpE ok ρ e (· = .tuple ds)) (hs : setAll ρ l ds = some ρ') (h2 : wpSs ok ρ' ms N R) : wpSs ok ρ (.asgT l e :: ms) N R := by
  unfold wpSs wpS
  exact wpE_mono e (fun d hd => by subst hd; show optP _ _; rw [hs]; exact h2) h1
theorem st_asgTl (h1 : wpE ok ρ e (· = .list ds)) (hs : setAll ρ l ds = some ρ') (h2 : wpSs ok ρ' ms N R) : wpSs ok ρ (.asgT l e :: ms) N R := by
  unfold wpSs wpS
  exact wpE_mono e (fun d hd => by subst hd; show optP _ _; rw [hs]; exact h2) h1
theorem st_asgW (h1 : wpEs ok ρ es (· = ds)) (hs : setAll ρ l.reverse ds.reverse = some ρ') (h2 : wpSs ok ρ' ms N R) : wpSs ok ρ (.asgW l es :: ms) N R := by
  unfold wpSs wpS
  exact wpEs_mono es (fun d hd => by subst hd; show optP _ _; rw [hs]; exact h2) h1
theorem st_aug {op : Operator} (h0 : ρ[i]? = some (some y)) (h1 : wpE ok ρ e (· = z)) (h2 : wpBin op y z (· = x)) (hs : ρ.set i (some x) = ρ') (h3 : wpSs ok ρ' ms N R) : wpSs ok ρ (.aug i op e :: ms) N R := by
  subst hs
  unfold wpSs wpS
  rw [h0]
  exact wpE_mono e (fun d hd => by subst hd; exact wpBin_mono (fun d hd => by subst hd; exact h3) h2) h1
theorem st_ite {C : Prop} (h : wpT ok ρ c (fun t => t = true ↔ C)) (h1 : C → wpSs ok ρ a (fun ρ' => wpSs ok ρ' ms N R) R) (h2 : ¬C → wpSs ok ρ b (fun ρ' => wpSs ok ρ' ms N R) R) : wpSs ok ρ (.ite c a b :: ms) N R := by
  unfold wpSs wpS
  unfold wpT at h ⊢
  refine wpE_mono c (fun d hd => ?_) h
  refine wpTr_mono (fun t _ q => ⟨fun e => h1 (q.mp e), fun e => h2 (fun y => ?_)⟩) hd
  rw [q.mpr y] at e
  cases e
theorem st_ret (h : wpE ok ρ e R) : wpSs ok ρ (.ret e :: ms) N R := by
  unfold wpSs wpS; exact h
theorem st_asrt (h : wpT ok ρ c (· = true)) (h2 : wpSs ok ρ ms N R) : wpSs ok ρ (.asrt c :: ms) N R := by
  unfold wpSs wpS
  unfold wpT at h ⊢
  exact wpE_mono c (fun d hd => wpTr_mono (fun t _ q => ⟨q, h2⟩) hd) h
theorem st_nil (h : N ρ) : wpSs ok ρ [] N R := by unfold wpSs; exact h
theorem st_for {w : Str} (h : wpFor (fun ρ' k => wpSs ok ρ' a k R) i (srcD (.text w)) ρ (fun ρ' => wpSs ok ρ' ms N R)) : wpSs ok ρ (.forS i w a :: ms) N R := by
  unfold wpSs wpS; exact h
theorem st_whl (I : Nat → Rho → Prop) (n : Nat) (h0 : I n ρ) (h : ∀ n ρ', I n ρ' → wpT ok ρ' c (· = true) ∧ wpSs ok ρ' a (fun ρ'' => ∃ m, m < n ∧ I m ρ'') R) : wpSs ok ρ (.whl c a :: ms) N R := by
  unfold wpSs wpS
  refine ⟨I, ⟨n, h0⟩, fun n ρ' hI => ?_⟩
  have h := h n ρ' hI
  unfold wpT at h ⊢
  exact wpE_mono c (fun d hd => wpTr_mono (fun t _ q => ⟨fun _ => h.2, fun e => by rw [q] at e; cases e⟩) hd) h.1
theorem e_call {f : Str} {P : D → Prop} (h1 : wpEs ok ρ es (· = ds)) (h2 : ok f ds x) (h3 : P x) : wpE ok ρ (.call f es) P := by
  unfold wpE
  exact wpEs_mono es (fun d hd => by subst hd; exact ⟨x, h2, h3⟩) h1
theorem es_cons {P : List D → Prop} (h1 : wpE ok ρ e (· = x)) (h2 : wpEs ok ρ es (fun ds => P (x :: ds))) : wpEs ok ρ (e :: es) P := by
  unfold wpEs
  exact wpE_mono e (fun d hd => by subst hd; exact h2) h1
end

theorem bind_plain {W : Wd} {f : Str} {names : List Str} {args : List D} (hl : args.length = names.length) (h : ∀ vals : List Value, vals.length = names.length → bindArgs (fdOf W.K f) ⟨vals, []⟩ = pure (names.zip vals)) : BindOK W f names args args :=
  fun s vals G r => ⟨vals, BindsTo.of_eq (h vals (by rw [r.length, hl])), r⟩

def dfltOf (K : PySem.W.Frag) (f : Str) : Array Value := match (fdOf K f).defaults with
  | .ref T => (match K.lookup T with
    | some ⟨_, _, .seq items _, _⟩ => items
    | _ => #[])
  | _ => #[]
def dfltOk (K : PySem.W.Frag) (f : Str) : Bool := match (fdOf K f).defaults with
  | .ref T => (match K.lookup T with
    | some ⟨_, _, .seq _ _, _⟩ => true
    | _ => false)
  | _ => false
theorem dfltOk_of {K : PySem.W.Frag} {f : Str} (h : dfltOk K f = true) : ∃ T o n, (fdOf K f).defaults = .ref T ∧ K.lookup T = some o ∧ o.data = .seq (dfltOf K f) n := by
  unfold dfltOk at h
  unfold dfltOf
  split at h
  · rename_i T e
    split at h
    · rename_i items ep sl e2
      exact ⟨T, _, ep, e, e2, rfl⟩
    · cases h
  · cases h
def valD : Value → D → Bool
  | .int j _, .int i => i == j
  | .str y _, .str x => x == y
  | _, _ => false
def valDs : List Value → List D → Bool
  | [], [] => true
  | v :: vs, d :: ds => valD v d && valDs vs ds
  | _, _ => false
theorem valD_rp {h : Heap} {v : Value} {d : D} (e : valD v d = true) : Rp h v d := by
  unfold valD at e
  split at e
  · obtain rfl := beq_iff_eq.mp e; exact .int _ _
  · obtain rfl := beq_iff_eq.mp e; exact .str _ _
  · cases e
theorem valDs_rps {h : Heap} : ∀ {vs : List Value} {ds : List D}, valDs vs ds = true → Rps h vs ds
  | [], [], _ => .nil
  | [], _ :: _, e => by simp [valDs] at e
  | _ :: _, [], e => by simp [valDs] at e
  | v :: vs, i :: l, e => by
    simp only [valDs, Bool.and_eq_true] at e
    exact .cons (valD_rp e.1) (valDs_rps e.2)
theorem bind_dflt {W : Wd} {f : Str} {names : List Str} {args dfl : List D} {j : Nat} (hok : dfltOk W.K f = true) (hv : valDs ((dfltOf W.K f).toList.drop j) dfl = true)
    (h : ∀ vals : List Value, vals.length = args.length → ∃ k, bindArgs (fdOf W.K f) ⟨vals, []⟩ = seqItems? (fdOf W.K f).defaults >>= k ∧ k (some (dfltOf W.K f)) = pure (names.zip (vals ++ (dfltOf W.K f).toList.drop j))) : BindOK W f names args (args ++ dfl) := by
  intro s vals G r
  obtain ⟨T, o, n, e1, e2, e3⟩ := dfltOk_of hok
  obtain ⟨k, k1, k2⟩ := h vals r.length
  exact ⟨_, BindsTo.of_defaults e1 (G.X _ _ e2) e3 k1 k2, Rps.append r (valDs_rps hv)⟩
end Mine

end

section
open PySem PySem.Calls
set_option maxRecDepth 100000
namespace Mine
theorem bd_trailing_1 (P : Params) (v0 : Value) : bindArgs (fdOf (Mine.hd.heap_39 P) ("trailing" : Str)) ⟨[v0], []⟩ = pure ((n_trailing.take 1).zip [v0]) := by kernel_rfl
theorem bnd_trailing_1 {W : Wd} {P : Params} (hK : W.K = Mine.hd.heap_39 P) (d0 : D) : BindOK W ("trailing" : Str) (n_trailing.take 1) [d0] [d0] := bind_plain (by rfl) fun vals h => match vals, h with
  | [v0], _ => by rw [hK]; exact bd_trailing_1 P v0
theorem bd_isqrt_small_1 (P : Params) (v0 : Value) : bindArgs (fdOf (Mine.hd.heap_39 P) ("isqrt_small" : Str)) ⟨[v0], []⟩ = pure ((n_isqrt_small.take 1).zip [v0]) := by kernel_rfl
theorem bnd_isqrt_small_1 {W : Wd} {P : Params} (hK : W.K = Mine.hd.heap_39 P) (d0 : D) : BindOK W ("isqrt_small" : Str) (n_isqrt_small.take 1) [d0] [d0] := bind_plain (by rfl) fun vals h => match vals, h with
  | [v0], _ => by rw [hK]; exact bd_isqrt_small_1 P v0
theorem bd_sqrtrem_1 (P : Params) (v0 : Value) : bindArgs (fdOf (Mine.hd.heap_39 P) ("sqrtrem" : Str)) ⟨[v0], []⟩ = pure ((n_sqrtrem.take 1).zip [v0]) := by kernel_rfl
theorem bnd_sqrtrem_1 {W : Wd} {P : Params} (hK : W.K = Mine.hd.heap_39 P) (d0 : D) : BindOK W ("sqrtrem" : Str) (n_sqrtrem.take 1) [d0] [d0] := bind_plain (by rfl) fun vals h => match vals, h with
  | [v0], _ => by rw [hK]; exact bd_sqrtrem_1 P v0
theorem bd_isqrt_1 (P : Params) (v0 : Value) : bindArgs (fdOf (Mine.hd.heap_39 P) ("isqrt" : Str)) ⟨[v0], []⟩ = pure ((n_isqrt.take 1).zip [v0]) := by kernel_rfl
theorem bnd_isqrt_1 {W : Wd} {P : Params} (hK : W.K = Mine.hd.heap_39 P) (d0 : D) : BindOK W ("isqrt" : Str) (n_isqrt.take 1) [d0] [d0] := bind_plain (by rfl) fun vals h => match vals, h with
  | [v0], _ => by rw [hK]; exact bd_isqrt_1 P v0
theorem bd_norm0_6 (P : Params) (v0 v1 v2 v3 v4 v5 : Value) : bindArgs (fdOf (Mine.hd.heap_39 P) ("_normalize" : Str)) ⟨[v0, v1, v2, v3, v4, v5], []⟩ = pure ((n_norm0.take 6).zip [v0, v1, v2, v3, v4, v5]) := by kernel_rfl
theorem bnd_norm0_6 {W : Wd} {P : Params} (hK : W.K = Mine.hd.heap_39 P) (d0 d1 d2 d3 d4 d5 : D) : BindOK W ("_normalize" : Str) (n_norm0.take 6) [d0, d1, d2, d3, d4, d5] [d0, d1, d2, d3, d4, d5] := bind_plain (by rfl) fun vals h => match vals, h with
  | [v0, v1, v2, v3, v4, v5], _ => by rw [hK]; exact bd_norm0_6 P v0 v1 v2 v3 v4 v5
theorem bd_normalize_6 (P : Params) (v0 v1 v2 v3 v4 v5 : Value) : bindArgs (fdOf (Mine.hd.heap_39 P) ("normalize" : Str)) ⟨[v0, v1, v2, v3, v4, v5], []⟩ = pure ((n_normalize.take 6).zip [v0, v1, v2, v3, v4, v5]) := by kernel_rfl
theorem bnd_normalize_6 {W : Wd} {P : Params} (hK : W.K = Mine.hd.heap_39 P) (d0 d1 d2 d3 d4 d5 : D) : BindOK W ("normalize" : Str) (n_normalize.take 6) [d0, d1, d2, d3, d4, d5] [d0, d1, d2, d3, d4, d5] := bind_plain (by rfl) fun vals h => match vals, h with
  | [v0, v1, v2, v3, v4, v5], _ => by rw [hK]; exact bd_normalize_6 P v0 v1 v2 v3 v4 v5
theorem bd_mpf_cmp_2 (P : Params) (v0 v1 : Value) : bindArgs (fdOf (Mine.hd.heap_39 P) ("mpf_cmp" : Str)) ⟨[v0, v1], []⟩ = pure ((n_mpf_cmp.take 2).zip [v0, v1]) := by kernel_rfl
theorem bnd_mpf_cmp_2 {W : Wd} {P : Params} (hK : W.K = Mine.hd.heap_39 P) (d0 d1 : D) : BindOK W ("mpf_cmp" : Str) (n_mpf_cmp.take 2) [d0, d1] [d0, d1] := bind_plain (by rfl) fun vals h => match vals, h with
  | [v0, v1], _ => by rw [hK]; exact bd_mpf_cmp_2 P v0 v1
theorem bd_mpf_le_2 (P : Params) (v0 v1 : Value) : bindArgs (fdOf (Mine.hd.heap_39 P) ("mpf_le" : Str)) ⟨[v0, v1], []⟩ = pure ((n_mpf_le.take 2).zip [v0, v1]) := by kernel_rfl
theorem bnd_mpf_le_2 {W : Wd} {P : Params} (hK : W.K = Mine.hd.heap_39 P) (d0 d1 : D) : BindOK W ("mpf_le" : Str) (n_mpf_le.take 2) [d0, d1] [d0, d1] := bind_plain (by rfl) fun vals h => match vals, h with
  | [v0, v1], _ => by rw [hK]; exact bd_mpf_le_2 P v0 v1
theorem bd_mpf_sign_1 (P : Params) (v0 : Value) : bindArgs (fdOf (Mine.hd.heap_39 P) ("mpf_sign" : Str)) ⟨[v0], []⟩ = pure ((n_mpf_sign.take 1).zip [v0]) := by kernel_rfl
theorem bnd_mpf_sign_1 {W : Wd} {P : Params} (hK : W.K = Mine.hd.heap_39 P) (d0 : D) : BindOK W ("mpf_sign" : Str) (n_mpf_sign.take 1) [d0] [d0] := bind_plain (by rfl) fun vals h => match vals, h with
  | [v0], _ => by rw [hK]; exact bd_mpf_sign_1 P v0
theorem bd_mpf_shift_2 (P : Params) (v0 v1 : Value) : bindArgs (fdOf (Mine.hd.heap_39 P) ("mpf_shift" : Str)) ⟨[v0, v1], []⟩ = pure ((n_mpf_shift.take 2).zip [v0, v1]) := by kernel_rfl
theorem bnd_mpf_shift_2 {W : Wd} {P : Params} (hK : W.K = Mine.hd.heap_39 P) (d0 d1 : D) : BindOK W ("mpf_shift" : Str) (n_mpf_shift.take 2) [d0, d1] [d0, d1] := bind_plain (by rfl) fun vals h => match vals, h with
  | [v0, v1], _ => by rw [hK]; exact bd_mpf_shift_2 P v0 v1
theorem bd_law_mixed_2 (P : Params) (v0 v1 : Value) : bindArgs (fdOf (Mine.hd.heap_39 P) ("_law_mixed" : Str)) ⟨[v0, v1], []⟩ = pure ((n_law_mixed.take 2).zip [v0, v1]) := by kernel_rfl
theorem bnd_law_mixed_2 {W : Wd} {P : Params} (hK : W.K = Mine.hd.heap_39 P) (d0 d1 : D) : BindOK W ("_law_mixed" : Str) (n_law_mixed.take 2) [d0, d1] [d0, d1] := bind_plain (by rfl) fun vals h => match vals, h with
  | [v0, v1], _ => by rw [hK]; exact bd_law_mixed_2 P v0 v1
theorem bd_law_raw_3 (P : Params) (v0 v1 v2 : Value) : bindArgs (fdOf (Mine.hd.heap_39 P) ("_law_raw" : Str)) ⟨[v0, v1, v2], []⟩ = pure ((n_law_raw.take 3).zip [v0, v1, v2]) := by kernel_rfl
theorem bnd_law_raw_3 {W : Wd} {P : Params} (hK : W.K = Mine.hd.heap_39 P) (d0 d1 d2 : D) : BindOK W ("_law_raw" : Str) (n_law_raw.take 3) [d0, d1, d2] [d0, d1, d2] := bind_plain (by rfl) fun vals h => match vals, h with
  | [v0, v1, v2], _ => by rw [hK]; exact bd_law_raw_3 P v0 v1 v2
theorem bd_law_done_6 (P : Params) (v0 v1 v2 v3 v4 v5 : Value) : bindArgs (fdOf (Mine.hd.heap_39 P) ("_law_done" : Str)) ⟨[v0, v1, v2, v3, v4, v5], []⟩ = pure ((n_law_done.take 6).zip [v0, v1, v2, v3, v4, v5]) := by kernel_rfl
theorem bnd_law_done_6 {W : Wd} {P : Params} (hK : W.K = Mine.hd.heap_39 P) (d0 d1 d2 d3 d4 d5 : D) : BindOK W ("_law_done" : Str) (n_law_done.take 6) [d0, d1, d2, d3, d4, d5] [d0, d1, d2, d3, d4, d5] := bind_plain (by rfl) fun vals h => match vals, h with
  | [v0, v1, v2, v3, v4, v5], _ => by rw [hK]; exact bd_law_done_6 P v0 v1 v2 v3 v4 v5
theorem bd_law_moved_right_7 (P : Params) (v0 v1 v2 v3 v4 v5 v6 : Value) : bindArgs (fdOf (Mine.hd.heap_39 P) ("_law_moved_right" : Str)) ⟨[v0, v1, v2, v3, v4, v5, v6], []⟩ = pure ((n_law_moved_right.take 7).zip [v0, v1, v2, v3, v4, v5, v6]) := by kernel_rfl
theorem bnd_law_moved_right_7 {W : Wd} {P : Params} (hK : W.K = Mine.hd.heap_39 P) (d0 d1 d2 d3 d4 d5 d6 : D) : BindOK W ("_law_moved_right" : Str) (n_law_moved_right.take 7) [d0, d1, d2, d3, d4, d5, d6] [d0, d1, d2, d3, d4, d5, d6] := bind_plain (by rfl) fun vals h => match vals, h with
  | [v0, v1, v2, v3, v4, v5, v6], _ => by rw [hK]; exact bd_law_moved_right_7 P v0 v1 v2 v3 v4 v5 v6
theorem bd_law_order_right_7 (P : Params) (v0 v1 v2 v3 v4 v5 v6 : Value) : bindArgs (fdOf (Mine.hd.heap_39 P) ("_law_order_right" : Str)) ⟨[v0, v1, v2, v3, v4, v5, v6], []⟩ = pure ((n_law_order_right.take 7).zip [v0, v1, v2, v3, v4, v5, v6]) := by kernel_rfl
theorem bnd_law_order_right_7 {W : Wd} {P : Params} (hK : W.K = Mine.hd.heap_39 P) (d0 d1 d2 d3 d4 d5 d6 : D) : BindOK W ("_law_order_right" : Str) (n_law_order_right.take 7) [d0, d1, d2, d3, d4, d5, d6] [d0, d1, d2, d3, d4, d5, d6] := bind_plain (by rfl) fun vals h => match vals, h with
  | [v0, v1, v2, v3, v4, v5, v6], _ => by rw [hK]; exact bd_law_order_right_7 P v0 v1 v2 v3 v4 v5 v6
theorem bd_from_man_exp_4 (P : Params) (v0 v1 v2 v3 : Value) : ∃ k, bindArgs (fdOf (Mine.hd.heap_39 P) ("from_man_exp" : Str)) ⟨[v0, v1, v2, v3], []⟩ = seqItems? (fdOf (Mine.hd.heap_39 P) ("from_man_exp" : Str)).defaults >>= k ∧ k (some (dfltOf (Mine.hd.heap_39 P) ("from_man_exp" : Str))) = pure ((n_from_man_exp.take 4).zip ([v0, v1, v2, v3] ++ (dfltOf (Mine.hd.heap_39 P) ("from_man_exp" : Str)).toList.drop 2)) := ⟨_, rfl, by kernel_rfl⟩
theorem bnd_from_man_exp_4 {W : Wd} {P : Params} (hK : W.K = Mine.hd.heap_39 P) (d0 d1 d2 d3 : D) : BindOK W ("from_man_exp" : Str) (n_from_man_exp.take 4) [d0, d1, d2, d3] [d0, d1, d2, d3] := bind_dflt (j := 2) (dfl := []) (by rw [hK]; kernel_rfl) (by rw [hK]; kernel_rfl) fun vals h => match vals, h with
  | [v0, v1, v2, v3], _ => by rw [hK]; exact bd_from_man_exp_4 P v0 v1 v2 v3
theorem bd_from_int_1 (P : Params) (v0 : Value) : ∃ k, bindArgs (fdOf (Mine.hd.heap_39 P) ("from_int" : Str)) ⟨[v0], []⟩ = seqItems? (fdOf (Mine.hd.heap_39 P) ("from_int" : Str)).defaults >>= k ∧ k (some (dfltOf (Mine.hd.heap_39 P) ("from_int" : Str))) = pure ((n_from_int.take 3).zip ([v0] ++ (dfltOf (Mine.hd.heap_39 P) ("from_int" : Str)).toList.drop 0)) := ⟨_, rfl, by kernel_rfl⟩
theorem bnd_from_int_1 {W : Wd} {P : Params} (hK : W.K = Mine.hd.heap_39 P) (d0 : D) : BindOK W ("from_int" : Str) (n_from_int.take 3) [d0] [d0, .int 0, .str chD] := bind_dflt (j := 0) (dfl := [.int 0, .str chD]) (by rw [hK]; kernel_rfl) (by rw [hK]; kernel_rfl) fun vals h => match vals, h with
  | [v0], _ => by rw [hK]; exact bd_from_int_1 P v0
theorem bd_mpf_pos_3 (P : Params) (v0 v1 v2 : Value) : ∃ k, bindArgs (fdOf (Mine.hd.heap_39 P) ("mpf_pos" : Str)) ⟨[v0, v1, v2], []⟩ = seqItems? (fdOf (Mine.hd.heap_39 P) ("mpf_pos" : Str)).defaults >>= k ∧ k (some (dfltOf (Mine.hd.heap_39 P) ("mpf_pos" : Str))) = pure ((n_mpf_pos.take 3).zip ([v0, v1, v2] ++ (dfltOf (Mine.hd.heap_39 P) ("mpf_pos" : Str)).toList.drop 2)) := ⟨_, rfl, by kernel_rfl⟩
theorem bnd_mpf_pos_3 {W : Wd} {P : Params} (hK : W.K = Mine.hd.heap_39 P) (d0 d1 d2 : D) : BindOK W ("mpf_pos" : Str) (n_mpf_pos.take 3) [d0, d1, d2] [d0, d1, d2] := bind_dflt (j := 2) (dfl := []) (by rw [hK]; kernel_rfl) (by rw [hK]; kernel_rfl) fun vals h => match vals, h with
  | [v0, v1, v2], _ => by rw [hK]; exact bd_mpf_pos_3 P v0 v1 v2
theorem bd_mpf_neg_1 (P : Params) (v0 : Value) : ∃ k, bindArgs (fdOf (Mine.hd.heap_39 P) ("mpf_neg" : Str)) ⟨[v0], []⟩ = seqItems? (fdOf (Mine.hd.heap_39 P) ("mpf_neg" : Str)).defaults >>= k ∧ k (some (dfltOf (Mine.hd.heap_39 P) ("mpf_neg" : Str))) = pure ((n_mpf_neg.take 3).zip ([v0] ++ (dfltOf (Mine.hd.heap_39 P) ("mpf_neg" : Str)).toList.drop 0)) := ⟨_, rfl, by kernel_rfl⟩
theorem bnd_mpf_neg_1 {W : Wd} {P : Params} (hK : W.K = Mine.hd.heap_39 P) (d0 : D) : BindOK W ("mpf_neg" : Str) (n_mpf_neg.take 3) [d0] [d0, .int 0, .str chD] := bind_dflt (j := 0) (dfl := [.int 0, .str chD]) (by rw [hK]; kernel_rfl) (by rw [hK]; kernel_rfl) fun vals h => match vals, h with
  | [v0], _ => by rw [hK]; exact bd_mpf_neg_1 P v0
theorem bd_mpf_abs_1 (P : Params) (v0 : Value) : ∃ k, bindArgs (fdOf (Mine.hd.heap_39 P) ("mpf_abs" : Str)) ⟨[v0], []⟩ = seqItems? (fdOf (Mine.hd.heap_39 P) ("mpf_abs" : Str)).defaults >>= k ∧ k (some (dfltOf (Mine.hd.heap_39 P) ("mpf_abs" : Str))) = pure ((n_mpf_abs.take 3).zip ([v0] ++ (dfltOf (Mine.hd.heap_39 P) ("mpf_abs" : Str)).toList.drop 0)) := ⟨_, rfl, by kernel_rfl⟩
theorem bnd_mpf_abs_1 {W : Wd} {P : Params} (hK : W.K = Mine.hd.heap_39 P) (d0 : D) : BindOK W ("mpf_abs" : Str) (n_mpf_abs.take 3) [d0] [d0, .int 0, .str chD] := bind_dflt (j := 0) (dfl := [.int 0, .str chD]) (by rw [hK]; kernel_rfl) (by rw [hK]; kernel_rfl) fun vals h => match vals, h with
  | [v0], _ => by rw [hK]; exact bd_mpf_abs_1 P v0
theorem bd_mpf_add_2 (P : Params) (v0 v1 : Value) : ∃ k, bindArgs (fdOf (Mine.hd.heap_39 P) ("mpf_add" : Str)) ⟨[v0, v1], []⟩ = seqItems? (fdOf (Mine.hd.heap_39 P) ("mpf_add" : Str)).defaults >>= k ∧ k (some (dfltOf (Mine.hd.heap_39 P) ("mpf_add" : Str))) = pure ((n_mpf_add.take 5).zip ([v0, v1] ++ (dfltOf (Mine.hd.heap_39 P) ("mpf_add" : Str)).toList.drop 0)) := ⟨_, rfl, by kernel_rfl⟩
theorem bnd_mpf_add_2 {W : Wd} {P : Params} (hK : W.K = Mine.hd.heap_39 P) (d0 d1 : D) : BindOK W ("mpf_add" : Str) (n_mpf_add.take 5) [d0, d1] [d0, d1, .int 0, .str chD, .int 0] := bind_dflt (j := 0) (dfl := [.int 0, .str chD, .int 0]) (by rw [hK]; kernel_rfl) (by rw [hK]; kernel_rfl) fun vals h => match vals, h with
  | [v0, v1], _ => by rw [hK]; exact bd_mpf_add_2 P v0 v1
theorem bd_mpf_add_4 (P : Params) (v0 v1 v2 v3 : Value) : ∃ k, bindArgs (fdOf (Mine.hd.heap_39 P) ("mpf_add" : Str)) ⟨[v0, v1, v2, v3], []⟩ = seqItems? (fdOf (Mine.hd.heap_39 P) ("mpf_add" : Str)).defaults >>= k ∧ k (some (dfltOf (Mine.hd.heap_39 P) ("mpf_add" : Str))) = pure ((n_mpf_add.take 5).zip ([v0, v1, v2, v3] ++ (dfltOf (Mine.hd.heap_39 P) ("mpf_add" : Str)).toList.drop 2)) := ⟨_, rfl, by kernel_rfl⟩
theorem bnd_mpf_add_4 {W : Wd} {P : Params} (hK : W.K = Mine.hd.heap_39 P) (d0 d1 d2 d3 : D) : BindOK W ("mpf_add" : Str) (n_mpf_add.take 5) [d0, d1, d2, d3] [d0, d1, d2, d3, .int 0] := bind_dflt (j := 2) (dfl := [.int 0]) (by rw [hK]; kernel_rfl) (by rw [hK]; kernel_rfl) fun vals h => match vals, h with
  | [v0, v1, v2, v3], _ => by rw [hK]; exact bd_mpf_add_4 P v0 v1 v2 v3
theorem bd_mpf_add_5 (P : Params) (v0 v1 v2 v3 v4 : Value) : ∃ k, bindArgs (fdOf (Mine.hd.heap_39 P) ("mpf_add" : Str)) ⟨[v0, v1, v2, v3, v4], []⟩ = seqItems? (fdOf (Mine.hd.heap_39 P) ("mpf_add" : Str)).defaults >>= k ∧ k (some (dfltOf (Mine.hd.heap_39 P) ("mpf_add" : Str))) = pure ((n_mpf_add.take 5).zip ([v0, v1, v2, v3, v4] ++ (dfltOf (Mine.hd.heap_39 P) ("mpf_add" : Str)).toList.drop 3)) := ⟨_, rfl, by kernel_rfl⟩
theorem bnd_mpf_add_5 {W : Wd} {P : Params} (hK : W.K = Mine.hd.heap_39 P) (d0 d1 d2 d3 d4 : D) : BindOK W ("mpf_add" : Str) (n_mpf_add.take 5) [d0, d1, d2, d3, d4] [d0, d1, d2, d3, d4] := bind_dflt (j := 3) (dfl := []) (by rw [hK]; kernel_rfl) (by rw [hK]; kernel_rfl) fun vals h => match vals, h with
  | [v0, v1, v2, v3, v4], _ => by rw [hK]; exact bd_mpf_add_5 P v0 v1 v2 v3 v4
theorem bd_mpf_sub_4 (P : Params) (v0 v1 v2 v3 : Value) : ∃ k, bindArgs (fdOf (Mine.hd.heap_39 P) ("mpf_sub" : Str)) ⟨[v0, v1, v2, v3], []⟩ = seqItems? (fdOf (Mine.hd.heap_39 P) ("mpf_sub" : Str)).defaults >>= k ∧ k (some (dfltOf (Mine.hd.heap_39 P) ("mpf_sub" : Str))) = pure ((n_mpf_sub.take 4).zip ([v0, v1, v2, v3] ++ (dfltOf (Mine.hd.heap_39 P) ("mpf_sub" : Str)).toList.drop 2)) := ⟨_, rfl, by kernel_rfl⟩
theorem bnd_mpf_sub_4 {W : Wd} {P : Params} (hK : W.K = Mine.hd.heap_39 P) (d0 d1 d2 d3 : D) : BindOK W ("mpf_sub" : Str) (n_mpf_sub.take 4) [d0, d1, d2, d3] [d0, d1, d2, d3] := bind_dflt (j := 2) (dfl := []) (by rw [hK]; kernel_rfl) (by rw [hK]; kernel_rfl) fun vals h => match vals, h with
  | [v0, v1, v2, v3], _ => by rw [hK]; exact bd_mpf_sub_4 P v0 v1 v2 v3
theorem bd_mpf_mul_4 (P : Params) (v0 v1 v2 v3 : Value) : ∃ k, bindArgs (fdOf (Mine.hd.heap_39 P) ("mpf_mul" : Str)) ⟨[v0, v1, v2, v3], []⟩ = seqItems? (fdOf (Mine.hd.heap_39 P) ("mpf_mul" : Str)).defaults >>= k ∧ k (some (dfltOf (Mine.hd.heap_39 P) ("mpf_mul" : Str))) = pure ((n_mpf_mul.take 4).zip ([v0, v1, v2, v3] ++ (dfltOf (Mine.hd.heap_39 P) ("mpf_mul" : Str)).toList.drop 2)) := ⟨_, rfl, by kernel_rfl⟩
theorem bnd_mpf_mul_4 {W : Wd} {P : Params} (hK : W.K = Mine.hd.heap_39 P) (d0 d1 d2 d3 : D) : BindOK W ("mpf_mul" : Str) (n_mpf_mul.take 4) [d0, d1, d2, d3] [d0, d1, d2, d3] := bind_dflt (j := 2) (dfl := []) (by rw [hK]; kernel_rfl) (by rw [hK]; kernel_rfl) fun vals h => match vals, h with
  | [v0, v1, v2, v3], _ => by rw [hK]; exact bd_mpf_mul_4 P v0 v1 v2 v3
theorem bd_mpf_mul_int_4 (P : Params) (v0 v1 v2 v3 : Value) : ∃ k, bindArgs (fdOf (Mine.hd.heap_39 P) ("mpf_mul_int" : Str)) ⟨[v0, v1, v2, v3], []⟩ = seqItems? (fdOf (Mine.hd.heap_39 P) ("mpf_mul_int" : Str)).defaults >>= k ∧ k (some (dfltOf (Mine.hd.heap_39 P) ("mpf_mul_int" : Str))) = pure ((n_mpf_mul_int.take 4).zip ([v0, v1, v2, v3] ++ (dfltOf (Mine.hd.heap_39 P) ("mpf_mul_int" : Str)).toList.drop 1)) := ⟨_, rfl, by kernel_rfl⟩
theorem bnd_mpf_mul_int_4 {W : Wd} {P : Params} (hK : W.K = Mine.hd.heap_39 P) (d0 d1 d2 d3 : D) : BindOK W ("mpf_mul_int" : Str) (n_mpf_mul_int.take 4) [d0, d1, d2, d3] [d0, d1, d2, d3] := bind_dflt (j := 1) (dfl := []) (by rw [hK]; kernel_rfl) (by rw [hK]; kernel_rfl) fun vals h => match vals, h with
  | [v0, v1, v2, v3], _ => by rw [hK]; exact bd_mpf_mul_int_4 P v0 v1 v2 v3
theorem bd_mpf_div_4 (P : Params) (v0 v1 v2 v3 : Value) : ∃ k, bindArgs (fdOf (Mine.hd.heap_39 P) ("mpf_div" : Str)) ⟨[v0, v1, v2, v3], []⟩ = seqItems? (fdOf (Mine.hd.heap_39 P) ("mpf_div" : Str)).defaults >>= k ∧ k (some (dfltOf (Mine.hd.heap_39 P) ("mpf_div" : Str))) = pure ((n_mpf_div.take 4).zip ([v0, v1, v2, v3] ++ (dfltOf (Mine.hd.heap_39 P) ("mpf_div" : Str)).toList.drop 1)) := ⟨_, rfl, by kernel_rfl⟩
theorem bnd_mpf_div_4 {W : Wd} {P : Params} (hK : W.K = Mine.hd.heap_39 P) (d0 d1 d2 d3 : D) : BindOK W ("mpf_div" : Str) (n_mpf_div.take 4) [d0, d1, d2, d3] [d0, d1, d2, d3] := bind_dflt (j := 1) (dfl := []) (by rw [hK]; kernel_rfl) (by rw [hK]; kernel_rfl) fun vals h => match vals, h with
  | [v0, v1, v2, v3], _ => by rw [hK]; exact bd_mpf_div_4 P v0 v1 v2 v3
theorem bd_mpf_rdiv_int_4 (P : Params) (v0 v1 v2 v3 : Value) : ∃ k, bindArgs (fdOf (Mine.hd.heap_39 P) ("mpf_rdiv_int" : Str)) ⟨[v0, v1, v2, v3], []⟩ = seqItems? (fdOf (Mine.hd.heap_39 P) ("mpf_rdiv_int" : Str)).defaults >>= k ∧ k (some (dfltOf (Mine.hd.heap_39 P) ("mpf_rdiv_int" : Str))) = pure ((n_mpf_rdiv_int.take 4).zip ([v0, v1, v2, v3] ++ (dfltOf (Mine.hd.heap_39 P) ("mpf_rdiv_int" : Str)).toList.drop 1)) := ⟨_, rfl, by kernel_rfl⟩
theorem bnd_mpf_rdiv_int_4 {W : Wd} {P : Params} (hK : W.K = Mine.hd.heap_39 P) (d0 d1 d2 d3 : D) : BindOK W ("mpf_rdiv_int" : Str) (n_mpf_rdiv_int.take 4) [d0, d1, d2, d3] [d0, d1, d2, d3] := bind_dflt (j := 1) (dfl := []) (by rw [hK]; kernel_rfl) (by rw [hK]; kernel_rfl) fun vals h => match vals, h with
  | [v0, v1, v2, v3], _ => by rw [hK]; exact bd_mpf_rdiv_int_4 P v0 v1 v2 v3
theorem bd_mpf_sqrt_3 (P : Params) (v0 v1 v2 : Value) : ∃ k, bindArgs (fdOf (Mine.hd.heap_39 P) ("mpf_sqrt" : Str)) ⟨[v0, v1, v2], []⟩ = seqItems? (fdOf (Mine.hd.heap_39 P) ("mpf_sqrt" : Str)).defaults >>= k ∧ k (some (dfltOf (Mine.hd.heap_39 P) ("mpf_sqrt" : Str))) = pure ((n_mpf_sqrt.take 3).zip ([v0, v1, v2] ++ (dfltOf (Mine.hd.heap_39 P) ("mpf_sqrt" : Str)).toList.drop 1)) := ⟨_, rfl, by kernel_rfl⟩
theorem bnd_mpf_sqrt_3 {W : Wd} {P : Params} (hK : W.K = Mine.hd.heap_39 P) (d0 d1 d2 : D) : BindOK W ("mpf_sqrt" : Str) (n_mpf_sqrt.take 3) [d0, d1, d2] [d0, d1, d2] := bind_dflt (j := 1) (dfl := []) (by rw [hK]; kernel_rfl) (by rw [hK]; kernel_rfl) fun vals h => match vals, h with
  | [v0, v1, v2], _ => by rw [hK]; exact bd_mpf_sqrt_3 P v0 v1 v2
end Mine

end

section
open PySem PySem.Calls
set_option maxRecDepth 100000
set_option linter.unusedVariables false
namespace Mine

/-- a number as the text has it -/
def num (sg man exp : Int) (bc : Int) : D := .tuple [.int sg, .int man, .int exp, .int bc]
def sv (sg man : Int) : Int := if sg = 0 then man else -man
/-- d is the number X / 2^E -/
def Is (E : Int) (X : Int) (d : D) : Prop := (X = 0 ∧ d = num 0 0 0 0) ∨
  ∃ sg man exp : Int, (sg = 0 ∨ sg = 1) ∧ man % 2 = 1 ∧ 0 < man ∧ 1 ≤ exp + E ∧ d = num sg man exp (Builtin.Int.intBits man) ∧ X = sv sg man * 2 ^ (exp + E).toNat

theorem odd_uniq : ∀ {a b : Nat} {x y : Int}, x % 2 = 1 → y % 2 = 1 → x * 2 ^ a = y * 2 ^ b → a = b ∧ x = y
  | 0, 0, x, y, _, _, h => ⟨rfl, by simpa using h⟩
  | 0, b + 1, x, y, hx, _, h => by
    rw [Int.pow_zero, Int.mul_one, Int.pow_succ, ← Int.mul_assoc] at h
    omega
  | a + 1, 0, x, y, _, hy, h => by
    rw [Int.pow_zero, Int.mul_one, Int.pow_succ, ← Int.mul_assoc] at h
    omega
  | a + 1, b + 1, x, y, hx, hy, h => by
    rw [Int.pow_succ, Int.pow_succ, ← Int.mul_assoc, ← Int.mul_assoc] at h
    obtain ⟨e1, e2⟩ := odd_uniq (a := a) (b := b) hx hy (by omega)
    exact ⟨by omega, e2⟩
theorem odd_part : ∀ (n : Nat) (x : Int), x ≠ 0 → x.natAbs ≤ n → ∃ (q : Int) (k : Nat), x = q * 2 ^ k ∧ q % 2 = 1
  | 0, x, hx, hn => by omega
  | n + 1, x, hx, hn => by
    by_cases h : x % 2 = 1
    · exact ⟨x, 0, by simp, h⟩
    · obtain ⟨q, k, e, hq⟩ := odd_part n (x / 2) (by omega) (by omega)
      refine ⟨q, k + 1, ?_, hq⟩
      rw [Int.pow_succ, ← Int.mul_assoc, ← e]
      omega
theorem odd_ex {x : Int} (hx : x ≠ 0) : ∃ (q : Int) (k : Nat), x = q * 2 ^ k ∧ q % 2 = 1 := odd_part x.natAbs x hx (Nat.le_refl _)

theorem tie_neg {m : Int} (hm : m ≠ 0) : tieDown (-m) ↔ ¬ tieDown m := by
  constructor
  · rintro ⟨q, k, e, hq⟩ ⟨q', k', e', hq'⟩
    have : (-q') * 2 ^ k' = q * 2 ^ k := by rw [Int.neg_mul, ← e', ← e]
    obtain ⟨_, h⟩ := odd_uniq (by omega) (by omega) this
    omega
  · intro h
    obtain ⟨q, k, e, hq⟩ := odd_ex hm
    refine ⟨-q, k, by rw [Int.neg_mul, ← e], ?_⟩
    have : q % 4 ≠ 1 := fun z => h ⟨q, k, e, z⟩
    omega

theorem sv_ne {sg man : Int} (h : 0 < man) : sv sg man ≠ 0 := by unfold sv; split <;> omega
theorem sv_odd {sg man : Int} (h : man % 2 = 1) : sv sg man % 2 = 1 := by unfold sv; split <;> omega
theorem Is.ne {E X sg man exp : Int} (h1 : 0 < man) (h3 : X = sv sg man * 2 ^ (exp + E).toNat) : X ≠ 0 := by
  rw [h3]
  exact Int.mul_ne_zero (sv_ne h1) (by have := pow_pos2 (exp + E).toNat; omega)
theorem Is.uniq {E X : Int} {d d' : D} (h : Is E X d) (k : Is E X d') : d = d' := by
  rcases h with ⟨h0, rfl⟩ | ⟨sg, man, exp, h1, h2, h3, h4, rfl, h5⟩ <;> rcases k with ⟨k0, rfl⟩ | ⟨sg', man', exp', k1, k2, k3, k4, rfl, k5⟩
  · rfl
  · exact absurd h0 (Is.ne k3 k5)
  · exact absurd k0 (Is.ne h3 h5)
  · obtain ⟨e1, e2⟩ := odd_uniq (sv_odd h2) (sv_odd k2) (h5.symm.trans k5)
    have e3 : exp = exp' := by omega
    have e4 : sg = sg' ∧ man = man' := by
      unfold sv at e2
      rcases h1 with rfl | rfl <;> rcases k1 with rfl | rfl <;> simp at e2 <;> first | exact ⟨rfl, by omega⟩ | omega
    rw [e3, e4.1, e4.2]
theorem Is.fun {E X Y : Int} {d : D} (h : Is E X d) (k : Is E Y d) : X = Y := by
  rcases h with ⟨h0, rfl⟩ | ⟨sg, man, exp, h1, h2, h3, h4, rfl, h5⟩ <;> rcases k with ⟨k0, k9⟩ | ⟨sg', man', exp', k1, k2, k3, k4, k9, k5⟩
  · rw [h0, k0]
  · simp only [num, PyData.tuple.injEq, List.cons.injEq, PyData.int.injEq] at k9; omega
  · simp only [num, PyData.tuple.injEq, List.cons.injEq, PyData.int.injEq] at k9; omega
  · simp only [num, PyData.tuple.injEq, List.cons.injEq, PyData.int.injEq] at k9
    obtain ⟨rfl, rfl, rfl, _⟩ := k9
    rw [h5, k5]
theorem Is.shift {E X j : Int} {sg man exp bc : Int} (h : Is E X (num sg man exp bc)) (hm : man ≠ 0) : Is (E - j) X (num sg man (exp + j) bc) := by
  rcases h with ⟨h0, h9⟩ | ⟨sg', man', exp', h1, h2, h3, h4, h9, h5⟩
  · simp only [num, PyData.tuple.injEq, List.cons.injEq, PyData.int.injEq] at h9; omega
  · simp only [num, PyData.tuple.injEq, List.cons.injEq, PyData.int.injEq] at h9
    obtain ⟨rfl, rfl, rfl, rfl, _⟩ := h9
    exact .inr ⟨sg, man, exp + j, h1, h2, h3, by omega, rfl, by rw [h5]; congr 2; omega⟩
/-- the parts of a number -/
theorem Is.parts {E X : Int} {d : D} (h : Is E X d) : ∃ sg man exp bc : Int, d = num sg man exp bc ∧ (sg = 0 ∨ sg = 1) ∧ 0 ≤ man ∧ bc = Builtin.Int.intBits man ∧ (man = 0 → sg = 0 ∧ exp = 0 ∧ bc = 0 ∧ X = 0) ∧ (man ≠ 0 → man % 2 = 1 ∧ 1 ≤ exp + E ∧ X = sv sg man * 2 ^ (exp + E).toNat) := by
  rcases h with ⟨h0, rfl⟩ | ⟨sg, man, exp, h1, h2, h3, h4, rfl, h5⟩
  · exact ⟨0, 0, 0, 0, rfl, .inl rfl, by omega, rfl, fun _ => ⟨rfl, rfl, rfl, h0⟩, fun q => absurd rfl q⟩
  · exact ⟨sg, man, exp, _, rfl, h1, by omega, rfl, fun q => by omega, fun _ => ⟨h2, h4, h5⟩⟩

/-- no number of p digits lies between M and M + 1 -/
theorem gap {p : Nat} {M Z : Int} {v : Nat} (hM : 2 ^ p ≤ 2 * M) (hZ : Fits p Z) (h : M * 2 ^ v < Z) : (M + 1) * 2 ^ v ≤ Z := by
  obtain ⟨A, k, rfl, h1, h2⟩ := hZ
  by_cases hk : v ≤ k + 1
  · obtain ⟨c, hc⟩ := Nat.le.dest hk
    rw [← hc, pow_add2, Int.mul_comm (2 ^ v), ← Int.mul_assoc] at h ⊢
    have hv := pow_pos2 v
    have : M < A * 2 ^ c := Int.lt_of_mul_lt_mul_right h (by omega)
    exact Int.mul_le_mul_of_nonneg_right (by omega) (by omega)
  · exfalso
    obtain ⟨c, hc⟩ := Nat.le.dest (show k + 1 + 1 ≤ v by omega)
    have e : (2 : Int) ^ v = 2 ^ (k + 1) * 2 * 2 ^ c := by rw [← hc, pow_add2, Int.pow_succ]
    have hk1 := pow_pos2 (k + 1)
    have hc1 := pow_pos2 c
    have hM0 : 0 ≤ M := by have := pow_pos2 p; omega
    have : A * 2 ^ (k + 1) ≤ M * 2 ^ v := by
      rw [e, show M * (2 ^ (k + 1) * 2 * 2 ^ c) = (2 * M * 2 ^ c) * 2 ^ (k + 1) by
        rw [Int.mul_comm (2 ^ (k + 1)) 2, Int.mul_assoc 2, Int.mul_comm (2 ^ (k + 1)), ← Int.mul_assoc 2, ← Int.mul_assoc, ← Int.mul_assoc, Int.mul_comm M 2]]
      refine Int.mul_le_mul_of_nonneg_right ?_ (by omega)
      calc A ≤ 2 * M := by omega
        _ = 2 * M * 1 := (Int.mul_one _).symm
        _ ≤ 2 * M * 2 ^ c := Int.mul_le_mul_of_nonneg_left (by omega) (by omega)
    omega

/-- the neighbours of a whole number that has more digits -/
theorem floor_of {p n w : Nat} {M rest y : Int} (hw : 1 ≤ n + w) (hy : y = (M * 2 ^ n + rest) * 2 ^ w) (h0 : 0 ≤ rest) (h1 : rest < 2 ^ n) (hM : 2 ^ p ≤ 2 * M) (hM2 : M < 2 ^ p) : isFloor p (ex y) (M * 2 ^ (n + w)) := by
  have hM0 : 0 ≤ M := by have := pow_pos2 p; omega
  obtain ⟨j, hj⟩ : ∃ j, n + w = j + 1 := ⟨n + w - 1, by omega⟩
  have hw0 := pow_pos2 w
  have hlow : M * 2 ^ (n + w) ≤ y := by
    rw [hy, pow_add2, ← Int.mul_assoc]
    exact Int.mul_le_mul_of_nonneg_right (by omega) (by omega)
  have hup : y < (M + 1) * 2 ^ (n + w) := by
    rw [hy, pow_add2, ← Int.mul_assoc]
    refine Int.mul_lt_mul_of_pos_right ?_ hw0
    rw [Int.add_mul]; omega
  refine ⟨⟨M, j, by rw [hj], by omega, by omega⟩, hlow, fun Y hY hL => ?_⟩
  by_cases q : M * 2 ^ (n + w) < Y
  · have := gap hM hY q
    have hL' : Y ≤ y := hL
    omega
  · omega
theorem ceil_of {p n w : Nat} {M rest y : Int} (hw : 1 ≤ n + w) (hy : y = (M * 2 ^ n + rest) * 2 ^ w) (h0 : 0 < rest) (h1 : rest < 2 ^ n) (hM : 2 ^ p ≤ 2 * M) (hM2 : M < 2 ^ p) : isCeil p (ex y) ((M + 1) * 2 ^ (n + w)) := by
  have hM0 : 0 ≤ M := by have := pow_pos2 p; omega
  obtain ⟨j, hj⟩ : ∃ j, n + w = j + 1 := ⟨n + w - 1, by omega⟩
  have hw0 := pow_pos2 w
  have hlow : M * 2 ^ (n + w) < y := by
    rw [hy, pow_add2, ← Int.mul_assoc]
    exact Int.mul_lt_mul_of_pos_right (by omega) hw0
  have hup : y < (M + 1) * 2 ^ (n + w) := by
    rw [hy, pow_add2, ← Int.mul_assoc]
    refine Int.mul_lt_mul_of_pos_right ?_ hw0
    rw [Int.add_mul]; omega
  refine ⟨⟨M + 1, j, by rw [hj], by omega, by omega⟩, by show y ≤ _; omega, fun Y hY hU => ?_⟩
  have hU' : y ≤ Y := hU
  exact gap hM hY (by omega)

/-- the other side of nought -/
theorem floor_neg {p : Nat} {y r : Int} (h : isFloor p (ex y) r) : isCeil p (ex (-y)) (-r) :=
  ⟨h.1.neg, by have : r ≤ y := h.2.1; show -y ≤ -r; omega, fun Y hY hU => by
    have hU' : -y ≤ Y := hU
    have := h.2.2 (-Y) hY.neg (by show -Y ≤ y; omega)
    omega⟩
theorem ceil_neg {p : Nat} {y r : Int} (h : isCeil p (ex y) r) : isFloor p (ex (-y)) (-r) :=
  ⟨h.1.neg, by have : y ≤ r := h.2.1; show -r ≤ -y; omega, fun Y hY hL => by
    have hL' : Y ≤ -y := hL
    have := h.2.2 (-Y) hY.neg (by show y ≤ -Y; omega)
    omega⟩
theorem near_neg {p : Nat} {y r : Int} (h : isNear p (ex y) r) : isNear p (ex (-y)) (-r) := by
  obtain ⟨a, b, m, h1, h2, h0, h3, h4⟩ := h
  have e1 : a ≤ y := h1.2.1
  have e2 : y ≤ b := h2.2.1
  refine ⟨-b, -a, -m, ceil_neg h2, floor_neg h1, h0.neg, by omega, ?_⟩
  have tz : m ≤ y → y ≤ m → ¬ (a = b) → m ≠ 0 := fun q1 q2 q3 q4 => by
    subst q4
    have := h1.2.2 0 (Fits.zero p) (by show (0 : Int) ≤ y; omega)
    have := h2.2.2 0 (Fits.zero p) (by show y ≤ (0 : Int); omega)
    omega
  rcases h4 with ⟨rfl, h5, h6⟩ | ⟨rfl, h5, h6⟩
  · right
    have h5' : y ≤ m := h5
    refine ⟨rfl, by show -m ≤ -y; omega, fun q => ?_⟩
    have q' : -y ≤ -m := q
    by_cases hab : r = b
    · left; omega
    · right
      rcases h6 (by show m ≤ y; omega) with z | z
      · exact absurd z hab
      · exact fun k => (tie_neg (tz (by omega) h5' hab)).mp k z
  · left
    have h5' : m ≤ y := h5
    refine ⟨rfl, by show -y ≤ -m; omega, fun q => ?_⟩
    have q' : -m ≤ -y := q
    by_cases hab : a = r
    · left; omega
    · right
      rcases h6 (by show y ≤ m; omega) with z | z
      · exact absurd z hab
      · exact (tie_neg (tz h5' (by omega) hab)).mpr z
end Mine

end

section
open PySem PySem.Calls
set_option maxRecDepth 100000
set_option linter.unusedVariables false
namespace Mine

theorem near_of {p n w : Nat} {M h low y : Int} (hw : 1 ≤ w) (hy : y = ((2 * M + h) * 2 ^ n + low) * 2 ^ w) (hh : h = 0 ∨ h = 1) (h0 : 0 ≤ low) (h1 : low < 2 ^ n) (hM : 2 ^ p ≤ 2 * M) (hM2 : M < 2 ^ p) :
    ((h = 1 ∧ (M % 2 = 1 ∨ low ≠ 0)) → isNear p (ex y) ((M + 1) * 2 ^ (n + 1 + w))) ∧ (¬ (h = 1 ∧ (M % 2 = 1 ∨ low ≠ 0)) → isNear p (ex y) (M * 2 ^ (n + 1 + w))) := by
  have hp := pow_pos2 p
  have hw0 := pow_pos2 w
  have hn0 := pow_pos2 n
  have e2 : (2 : Int) ^ (n + 1) = 2 * 2 ^ n := by rw [Int.pow_succ, Int.mul_comm]
  have hy2 : y = (M * 2 ^ (n + 1) + (h * 2 ^ n + low)) * 2 ^ w := by
    rw [hy, e2, Int.add_mul (2 * M) h, ← Int.mul_assoc M 2, Int.mul_comm M 2]
    congr 1; omega
  have hhn : h * 2 ^ n = 0 ∧ h = 0 ∨ h * 2 ^ n = 2 ^ n ∧ h = 1 := by
    rcases hh with rfl | rfl
    · left; simp
    · right; simp
  have hr0 : 0 ≤ h * 2 ^ n + low := by omega
  have hr1 : h * 2 ^ n + low < 2 ^ (n + 1) := by rw [e2]; omega
  have fl := floor_of (p := p) (n := n + 1) (w := w) (by omega) hy2 hr0 hr1 hM hM2
  by_cases hr : h * 2 ^ n + low = 0
  · have hl : h = 0 ∧ low = 0 := by rcases hhn with q | q <;> omega
    have ye : y = M * 2 ^ (n + 1 + w) := by rw [hy2, hr, Int.add_zero, pow_add2 (n + 1) w, Int.mul_assoc]
    refine ⟨fun q => by omega, fun _ => ?_⟩
    rw [← ye]
    exact near_ex (ye ▸ fl.1)
  · have ce := ceil_of (p := p) (n := n + 1) (w := w) (by omega) hy2 (by omega) hr1 hM hM2
    obtain ⟨j, hj⟩ : ∃ j, n + w = j + 1 := ⟨n + w - 1, by omega⟩
    have ep : (2 : Int) ^ (p + 1) = 2 * 2 ^ p := by rw [Int.pow_succ, Int.mul_comm]
    have hm : Fits (p + 1) ((2 * M + 1) * 2 ^ (n + w)) := ⟨2 * M + 1, j, by rw [hj], by omega, by omega⟩
    have enw : (2 : Int) ^ (n + 1 + w) = 2 * 2 ^ (n + w) := by rw [show n + 1 + w = n + w + 1 by omega, Int.pow_succ, Int.mul_comm]
    have hmid : M * 2 ^ (n + 1 + w) + (M + 1) * 2 ^ (n + 1 + w) = 2 * ((2 * M + 1) * 2 ^ (n + w)) := by
      rw [enw, ← Int.add_mul, ← Int.mul_assoc, ← Int.mul_assoc]
      congr 1; omega
    have hdiff : y = (2 * M + 1) * 2 ^ (n + w) + ((h - 1) * 2 ^ n + low) * 2 ^ w := by
      rw [hy, pow_add2 n w, ← Int.mul_assoc, ← Int.add_mul]
      congr 1
      rw [Int.add_mul, Int.add_mul, Int.sub_mul]; omega
    have hc : (h - 1) * 2 ^ n + low = h * 2 ^ n + low - 2 ^ n := by rw [Int.sub_mul]; omega
    rw [hc] at hdiff
    have hs : ∀ z : Int, (z < 0 → z * 2 ^ w < 0) ∧ (0 < z → 0 < z * 2 ^ w) := fun z => ⟨fun q => Int.mul_neg_of_neg_of_pos q hw0, fun q => Int.mul_pos q hw0⟩
    constructor
    · rintro ⟨rfl, hlo⟩
      refine ⟨_, _, _, fl, ce, hm, hmid, .inr ⟨rfl, ?_, ?_⟩⟩
      · show (2 * M + 1) * 2 ^ (n + w) ≤ y
        by_cases hl : low = 0
        · rw [hdiff, hl]; simp
        · have := (hs (1 * 2 ^ n + low - 2 ^ n)).2 (by omega)
          omega
      · intro q
        right
        have q' : y ≤ (2 * M + 1) * 2 ^ (n + w) := q
        have hl : low = 0 := by
          by_cases hl : low = 0
          · exact hl
          · have := (hs (1 * 2 ^ n + low - 2 ^ n)).2 (by omega)
            omega
        have hodd : M % 2 = 1 := by omega
        rintro ⟨q2, k, e, hq⟩
        obtain ⟨_, e3⟩ := odd_uniq (x := 2 * M + 1) (y := q2) (by omega) (by omega) e
        omega
    · intro hn
      refine ⟨_, _, _, fl, ce, hm, hmid, .inl ⟨rfl, ?_, ?_⟩⟩
      · show y ≤ (2 * M + 1) * 2 ^ (n + w)
        rcases hhn with ⟨e1, rfl⟩ | ⟨e1, rfl⟩
        · have := (hs (0 * 2 ^ n + low - 2 ^ n)).1 (by omega)
          omega
        · have hl : low = 0 := by
            by_cases hl : low = 0
            · exact hl
            · exact absurd ⟨rfl, .inr hl⟩ hn
          rw [hdiff, hl]; simp
      · intro q
        right
        have q' : (2 * M + 1) * 2 ^ (n + w) ≤ y := q
        rcases hhn with ⟨e1, rfl⟩ | ⟨e1, rfl⟩
        · have := (hs (0 * 2 ^ n + low - 2 ^ n)).1 (by omega)
          omega
        · have hev : M % 2 = 0 := by
            by_cases hl : M % 2 = 1
            · exact absurd ⟨rfl, .inl hl⟩ hn
            · omega
          exact ⟨2 * M + 1, n + w, rfl, by omega⟩

/-- which neighbour the sign and the mode ask for -/
def pick (sg : Int) (m : Mode) (a b c : Int) : Int := match m with
  | .n => c
  | .f => if sg = 0 then a else b
  | .c => if sg = 0 then b else a
  | .d => a
  | .u => b
theorem rnd_pick {p : Nat} {sg Y a b c : Int} (hsg : sg = 0 ∨ sg = 1) (hY : 0 < Y) (ha : isFloor p (ex Y) a) (hb : isCeil p (ex Y) b) (hc : isNear p (ex Y) c) (m : Mode) : Rnd p (ex (sv sg Y)) (sv sg (pick sg m a b c)) m := by
  have z : ∀ {P : Prop}, (ex Y).U 0 → P := fun h => absurd (show Y ≤ 0 from h) (by omega)
  have z' : ∀ {P : Prop}, (ex (-Y)).L 0 → P := fun h => absurd (show (0 : Int) ≤ -Y from h) (by omega)
  rcases hsg with rfl | rfl
  · cases m with
    | n => exact hc
    | f => exact ha
    | c => exact hb
    | d => exact ⟨fun _ => ha, fun h => z h⟩
    | u => exact ⟨fun _ => hb, fun h => z h⟩
  · cases m with
    | n => exact near_neg hc
    | f => exact ceil_neg hb
    | c => exact floor_neg ha
    | d => exact ⟨fun h => z' h, fun _ => floor_neg ha⟩
    | u => exact ⟨fun h => z' h, fun _ => ceil_neg hb⟩

theorem sv_mul (sg a b : Int) : sv sg a * b = sv sg (a * b) := by unfold sv; split <;> simp [Int.neg_mul]

theorem bits_of {x : Int} {k : Nat} (h1 : 2 ^ k ≤ x) (h2 : x < 2 ^ (k + 1)) : Builtin.Int.intBits x = k + 1 := by
  have hk := pow_pos2 k
  have c1 : ((2 ^ k : Nat) : Int) = 2 ^ k := PySem.W.kbt_cast k
  have c2 : ((2 ^ (k + 1) : Nat) : Int) = 2 ^ (k + 1) := PySem.W.kbt_cast (k + 1)
  have h3 : ¬ x.natAbs < 2 ^ k := by omega
  have h4 : x.natAbs < 2 ^ (k + 1) := by omega
  have h5 := mt (PySem.intBits_le_iff (m := k) (x := x)).mp h3
  have h6 := (PySem.intBits_le_iff (m := k + 1) (x := x)).mpr h4
  omega
theorem bits_lt {x : Int} (h : 0 ≤ x) : x < 2 ^ Builtin.Int.intBits x := by
  have := PyProof.Rows.natAbs_lt_pow_bits x
  have c1 : ((2 ^ Builtin.Int.intBits x : Nat) : Int) = 2 ^ Builtin.Int.intBits x := PySem.W.kbt_cast _
  omega
theorem bits_ge {x : Int} (h : 0 < x) : 2 ^ (Builtin.Int.intBits x) ≤ 2 * x := by
  generalize hb : Builtin.Int.intBits x = b
  cases b with
  | zero =>
    have : x.natAbs < 2 ^ 0 := PySem.intBits_le_iff.mp (by omega)
    omega
  | succ k =>
    have h1 : ¬ Builtin.Int.intBits x ≤ k := by omega
    have h2 := mt PySem.intBits_le_iff.mpr h1
    have c1 : ((2 ^ k : Nat) : Int) = 2 ^ k := PySem.W.kbt_cast k
    rw [Int.pow_succ]; omega
theorem bits_pos {x : Int} (h : 0 < x) : 1 ≤ Builtin.Int.intBits x := by
  by_cases q : Builtin.Int.intBits x = 0
  · have := bits_lt (x := x) (by omega)
    rw [q] at this; simp at this; omega
  · omega
theorem bits_zero : Builtin.Int.intBits 0 = 0 := rfl
theorem bits_eq {x : Int} {b : Nat} (h : 0 < x) (h1 : x < 2 ^ b) (h2 : 2 ^ b ≤ 2 * x) : Builtin.Int.intBits x = b := by
  cases b with
  | zero => simp at h1; omega
  | succ k => exact bits_of (by rw [Int.pow_succ] at h2; omega) h1
theorem bits_mul {x : Int} {k : Nat} (h : 0 < x) : Builtin.Int.intBits (x * 2 ^ k) = Builtin.Int.intBits x + k := by
  have hk := pow_pos2 k
  refine bits_eq (Int.mul_pos h hk) ?_ ?_
  · rw [pow_add2]; exact Int.mul_lt_mul_of_pos_right (bits_lt (by omega)) hk
  · rw [pow_add2, ← Int.mul_assoc]; exact Int.mul_le_mul_of_nonneg_right (bits_ge h) (by omega)
theorem bits_pow (k : Nat) : Builtin.Int.intBits ((2 : Int) ^ k) = k + 1 := by
  have := bits_mul (x := 1) (k := k) (by omega)
  rw [Int.one_mul] at this
  rw [this, show Builtin.Int.intBits 1 = 1 from rfl]; omega
end Mine

end

section
open PySem PySem.Calls
set_option maxRecDepth 100000
set_option linter.unusedVariables false
set_option linter.unusedSimpArgs false
namespace Mine
local macro_rules
  | `(tactic| ktr_unf) => `(tactic| simp only [wpT, wpE, wpEs, wpTr, truthD, wpBin, optP, cmpD, itemD, eq4, setAll, List.map_cons, List.map_nil, List.reverse_cons, List.reverse_nil, List.nil_append, List.cons_append, List.getElem?_cons_zero, List.getElem?_cons_succ, List.set_cons_zero, List.set_cons_succ, Option.some.injEq, PyData.int.injEq, PyData.bool.injEq, PyData.tuple.injEq, PyData.str.injEq, decide_eq_true_eq, Bool.not_eq_true', decide_eq_false_iff_not, num])

structure Here (W : Wd) (P : Params) : Prop where
  K : W.K = Mine.hd.heap_39 P
  S : ShdAt W

theorem wpTr_some {d : D} {b : Bool} {P : Bool → Prop} (hb : truthD d = some b) (h : P b) : wpTr d P := by
  unfold wpTr; rw [hb]; exact h
theorem fn_ok {W : Wd} {P : Params} (H : Here W P) {f : Str} {ns : List Str} {body : List MS} {args full : List D} {d : D} {n : Nat} (j : Nat) (hk : fnChk (Mine.hd.heap_39 P) f ns body = true) (hl : locChk (Mine.hd.heap_39 P) f (ns.take j) = true)
    (hb : BindOK W f (ns.take j) args full) (hj : j = full.length) (hlen : j ≤ ns.length) (h : wpSs (Ok W n) (full.map some ++ List.replicate (ns.length - j) none) body (fun _ => False) (· = d)) : Ok W (n + 1) f args d := by
  subst hj
  exact ok_of_body H.S (by rw [H.K]; exact hk) (by rw [H.K]; exact hl) hlen hb h

section
variable {ok : Str → List D → D → Prop} {ρ : Rho} {e l r c : ME} {A B : Prop} {x y : Int}
theorem t_int (h : wpE ok ρ e (· = .int x)) : wpT ok ρ e (fun t => t = true ↔ x ≠ 0) := by
  unfold wpT
  refine wpE_mono e (fun d hd => ?_) h
  subst hd
  show ((!decide (x = 0)) = true ↔ x ≠ 0)
  simp
theorem t_bool {b : Bool} (h : wpE ok ρ e (· = .bool b)) : wpT ok ρ e (fun t => t = true ↔ b = true) := by
  unfold wpT
  refine wpE_mono e (fun d hd => ?_) h
  subst hd
  exact Iff.rfl
theorem t_iff (h : wpT ok ρ e (fun t => t = true ↔ A)) (q : A ↔ B) : wpT ok ρ e (fun t => t = true ↔ B) := by
  unfold wpT at h ⊢
  exact wpE_mono e (fun d => wpTr_mono fun b _ z => z.trans q) h
theorem t_not (h : wpT ok ρ e (fun t => t = true ↔ A)) : wpT ok ρ (.not e) (fun t => t = true ↔ ¬A) := by
  unfold wpT at h ⊢
  unfold wpE
  refine wpE_mono e (fun d => wpTr_mono fun b _ q => ?_) h
  show ((!b) = true ↔ ¬A)
  rw [← q]
  cases b <;> simp
theorem t_and (h1 : wpT ok ρ l (fun t => t = true ↔ A)) (h2 : A → wpT ok ρ r (fun t => t = true ↔ B)) : wpT ok ρ (.and l r) (fun t => t = true ↔ (A ∧ B)) := by
  unfold wpT at h1 h2 ⊢
  unfold wpE
  refine wpE_mono l (fun d => wpTr_mono fun b hb q => ⟨fun e => wpE_mono r (fun d' => wpTr_mono fun b' _ q' => ?_) (h2 (q.mp e)), fun e => ?_⟩) h1
  · have := q.mp e
    exact q'.trans ⟨fun z => ⟨this, z⟩, fun z => z.2⟩
  · refine wpTr_some hb ?_
    subst e
    exact ⟨fun z => (Bool.noConfusion z), fun z => q.mpr z.1⟩
theorem t_or (h1 : wpT ok ρ l (fun t => t = true ↔ A)) (h2 : ¬A → wpT ok ρ r (fun t => t = true ↔ B)) : wpT ok ρ (.or l r) (fun t => t = true ↔ (A ∨ B)) := by
  unfold wpT at h1 h2 ⊢
  unfold wpE
  refine wpE_mono l (fun d => wpTr_mono fun b hb q => ⟨fun e => ?_, fun e => wpE_mono r (fun d' => wpTr_mono fun b' _ q' => ?_) (h2 fun z => ?_)⟩) h1
  · refine wpTr_some hb ?_
    exact ⟨fun z => .inl (q.mp e), fun _ => e⟩
  · have : ¬A := fun z => by rw [q.mpr z] at e; cases e
    exact q'.trans ⟨fun z => .inr z, fun z => z.resolve_left this⟩
  · rw [q.mpr z] at e; cases e
theorem e_bin {op : Operator} {a b d : D} {P : D → Prop} (h1 : wpE ok ρ l (· = a)) (h2 : wpE ok ρ r (· = b)) (h3 : wpBin op a b P) : wpE ok ρ (.bin op l r) P := by
  unfold wpE
  exact wpE_mono l (fun x hx => by subst hx; exact wpE_mono r (fun y hy => by subst hy; exact h3) h2) h1
theorem t_cmp {op : CmpOp} {a b : D} (h1 : wpE ok ρ l (· = a)) (h2 : wpE ok ρ r (· = b)) {t : Bool} (h3 : cmpD op a b = some t) (h4 : t = true ↔ A) : wpT ok ρ (.cmp op l r) (fun t => t = true ↔ A) := by
  unfold wpT wpE
  refine wpE_mono l (fun x hx => ?_) h1
  subst hx
  refine wpE_mono r (fun y hy => ?_) h2
  subst hy
  rw [h3]
  exact h4
end

/-- the last bit -/
theorem and1 (x : Int) : Builtin.bitAnd x 1 = x % 2 := PyProof.Rows.bitAnd_m1 x

theorem trailing_ok {W : Wd} {P : Params} (H : Here W P) {x q : Int} {k : Nat} (h0 : 0 < x) (e : x = q * 2 ^ k) (hq : q % 2 = 1) : Ok W 1 ("trailing" : Str) [.int x] (.int k) := by
  refine fn_ok H 1 (k_trailing P) (by kernel_rfl) (bnd_trailing_1 H.K (.int x)) rfl (by decide) ?_
  show wpSs _ [some (.int x)] b_trailing _ _
  unfold b_trailing
  refine st_ite (C := x = 0) (t_iff (t_not (t_int (x := x) (by ktr_unf))) (by simp)) (fun z => by omega) (fun _ => st_nil ?_)
  refine st_ret ?_
  have hl : Builtin.bitAnd x (-x) = 2 ^ k := by
    have := PySem.W.kbt_low k (q / 2)
    rwa [show 2 ^ k * (2 * (q / 2) + 1) = x by rw [e, Int.mul_comm]; congr 1; omega] at this
  ktr_unf
  rw [hl, bits_pow]
  omega
end Mine

end

section
open PySem PySem.Calls
set_option maxRecDepth 100000
set_option linter.unusedVariables false
set_option linter.unusedSimpArgs false
namespace Mine
local macro_rules
  | `(tactic| ktr_unf) => `(tactic| simp only [wpT, wpE, wpEs, wpTr, truthD, wpBin, optP, cmpD, itemD, eq4, setAll, List.map_cons, List.map_nil, List.reverse_cons, List.reverse_nil, List.nil_append, List.cons_append, List.getElem?_cons_zero, List.getElem?_cons_succ, List.set_cons_zero, List.set_cons_succ, Option.some.injEq, PyData.int.injEq, PyData.bool.injEq, PyData.tuple.injEq, PyData.str.injEq, decide_eq_true_eq, Bool.not_eq_true', decide_eq_false_iff_not, num])

def mch : Mode → Str
  | .n => chN
  | .f => chF
  | .c => chC
  | .d => chD
  | .u => chU
def dn (sg : Int) : Mode → Bool
  | .f => sg == 0
  | .c => sg != 0
  | .d => true
  | _ => false
theorem pick_dn {sg a b c : Int} {m : Mode} (hm : m ≠ .n) : pick sg m a b c = if dn sg m = true then a else b := by
  cases m with
  | n => exact absurd rfl hm
  | f => by_cases h : sg = 0 <;> simp [pick, dn, h]
  | c => by_cases h : sg = 0 <;> simp [pick, dn, h]
  | d => simp [pick, dn]
  | u => simp [pick, dn]
theorem pick_mul (sg a b c k : Int) (m : Mode) : pick sg m (a * k) (b * k) (c * k) = pick sg m a b c * k := by
  cases m <;> simp only [pick] <;> split <;> rfl
def mdn (man : Int) (n : Nat) : Int := man.fdiv (2 ^ (n + 1))
def mup (man : Int) (n : Nat) : Int := -((-man).fdiv (2 ^ (n + 1)))
def mnr (man : Int) (n : Nat) : Int := if man.fdiv (2 ^ n) % 2 = 1 ∧ (man.fdiv (2 ^ n) / 2 % 2 = 1 ∨ man % 2 ^ n ≠ 0) then (man.fdiv (2 ^ n)).fdiv 2 + 1 else (man.fdiv (2 ^ n)).fdiv 2
def man1 (sg : Int) (m : Mode) (man : Int) (n : Nat) : Int := pick sg m (mdn man n) (mup man n) (mnr man n)

theorem fdiv2 (x : Int) (k : Nat) : x.fdiv (2 ^ k) = x / 2 ^ k := Int.fdiv_eq_ediv_of_nonneg _ (by have := pow_pos2 k; omega)

theorem norm_rnd {sg man : Int} {p n w : Nat} {m : Mode} (hsg : sg = 0 ∨ sg = 1) (h0 : 0 < man) (hb : Builtin.Int.intBits man = p + (n + 1)) (hp : 1 ≤ p) (hw : 1 ≤ w) :
    Rnd p (ex (sv sg (man * 2 ^ w))) (sv sg (man1 sg m man n * 2 ^ (n + 1 + w))) m ∧ 2 ^ p ≤ 2 * man1 sg m man n ∧ man1 sg m man n ≤ 2 ^ p := by
  have hn := pow_pos2 (n + 1)
  have hn0 := pow_pos2 n
  have hww := pow_pos2 w
  have hpp := pow_pos2 p
  have e2 : (2 : Int) ^ (n + 1) = 2 * 2 ^ n := by rw [Int.pow_succ, Int.mul_comm]
  have b1 := bits_ge h0
  have b2 := bits_lt (x := man) (by omega)
  rw [hb] at b1 b2
  rw [pow_add2] at b1 b2
  have d1 := Int.emod_add_mul_ediv man (2 ^ (n + 1))
  have d2 := Int.emod_nonneg man (show (2 : Int) ^ (n + 1) ≠ 0 by omega)
  have d3 := Int.emod_lt_of_pos man hn
  have hM2 : man / 2 ^ (n + 1) < 2 ^ p := Int.ediv_lt_of_lt_mul hn b2
  have hM : 2 ^ p ≤ 2 * (man / 2 ^ (n + 1)) := by
    obtain ⟨p', rfl⟩ : ∃ p', p = p' + 1 := ⟨p - 1, by omega⟩
    have e3 : (2 : Int) ^ (p' + 1) = 2 * 2 ^ p' := by rw [Int.pow_succ, Int.mul_comm]
    rw [e3] at b1 ⊢
    rw [Int.mul_assoc] at b1
    have : 2 ^ p' ≤ man / 2 ^ (n + 1) := by rw [Int.le_ediv_iff_mul_le hn]; omega
    omega
  have hMM : man1 sg m man n = pick sg m (man / 2 ^ (n + 1)) (if man % 2 ^ (n + 1) = 0 then man / 2 ^ (n + 1) else man / 2 ^ (n + 1) + 1) (mnr man n) := by
    unfold man1 mdn mup
    rw [fdiv2, fdiv2]
    congr 1
    have k1 := PySem.W.kbt_below (-man) hn
    rw [Int.neg_neg] at k1
    split
    · rename_i z
      have : -man = (-(man / 2 ^ (n + 1))) * 2 ^ (n + 1) := by rw [Int.neg_mul, Int.mul_comm]; omega
      rw [this, Int.mul_ediv_cancel _ (by omega)]; omega
    · rename_i z
      have : (man - 1) / 2 ^ (n + 1) = man / 2 ^ (n + 1) := by
        have := PySem.W.kbt_unique (a := man - 1) (b := 2 ^ (n + 1)) (q := man / 2 ^ (n + 1)) (r := man % 2 ^ (n + 1) - 1) hn (by omega) (by omega) (by omega)
        exact this.1
      rw [k1.1, this]; omega
  have ht : man / 2 ^ n = 2 * (man / 2 ^ (n + 1)) + man / 2 ^ n % 2 := by
    have : man / 2 ^ n / 2 = man / 2 ^ (n + 1) := by rw [Int.ediv_ediv_of_nonneg (by omega), e2, Int.mul_comm]
    omega
  have d4 := Int.emod_add_mul_ediv man (2 ^ n)
  have d5 := Int.emod_nonneg man (show (2 : Int) ^ n ≠ 0 by omega)
  have d6 := Int.emod_lt_of_pos man hn0
  have hnr : isNear p (ex (man * 2 ^ w)) (mnr man n * 2 ^ (n + 1 + w)) ∧ 2 ^ p ≤ 2 * mnr man n ∧ mnr man n ≤ 2 ^ p := by
    have hy : man * 2 ^ w = ((2 * (man / 2 ^ (n + 1)) + man / 2 ^ n % 2) * 2 ^ n + man % 2 ^ n) * 2 ^ w := by
      rw [← ht, Int.mul_comm (man / 2 ^ n)]; congr 1; omega
    have k := near_of (p := p) hw hy (by omega) d5 d6 hM hM2
    unfold mnr
    have e3 : (man.fdiv (2 ^ n)).fdiv 2 = man / 2 ^ (n + 1) := by
      rw [fdiv2, Int.fdiv_eq_ediv_of_nonneg _ (by omega)]; omega
    rw [e3, fdiv2]
    split
    · rename_i z
      exact ⟨k.1 ⟨z.1, by omega⟩, by omega, by omega⟩
    · rename_i z
      exact ⟨k.2 (fun y => z ⟨y.1, by omega⟩), by omega, by omega⟩
  have hfl : isFloor p (ex (man * 2 ^ w)) (man / 2 ^ (n + 1) * 2 ^ (n + 1 + w)) := floor_of (rest := man % 2 ^ (n + 1)) (by omega) (by rw [Int.mul_comm (man / 2 ^ (n + 1))]; congr 1; omega) d2 d3 hM hM2
  have hce : isCeil p (ex (man * 2 ^ w)) ((if man % 2 ^ (n + 1) = 0 then man / 2 ^ (n + 1) else man / 2 ^ (n + 1) + 1) * 2 ^ (n + 1 + w)) := by
    split
    · rename_i z
      have : man * 2 ^ w = man / 2 ^ (n + 1) * 2 ^ (n + 1 + w) := by
        rw [pow_add2 (n + 1), ← Int.mul_assoc, Int.mul_comm (man / 2 ^ (n + 1))]; congr 1; omega
      rw [this]
      exact ceil_ex hfl.1
    · exact ceil_of (rest := man % 2 ^ (n + 1)) (by omega) (by rw [Int.mul_comm (man / 2 ^ (n + 1))]; congr 1; omega) (by omega) d3 hM hM2
  refine ⟨?_, ?_⟩
  · have := rnd_pick hsg (Int.mul_pos h0 hww) hfl hce hnr.1 m
    rw [pick_mul] at this
    rw [hMM]; exact this
  · rw [hMM]
    cases m <;> simp only [pick] <;> first | exact hnr.2 | (repeat' split) <;> omega
end Mine

end

section
open PySem PySem.Calls
set_option maxRecDepth 100000
set_option linter.unusedVariables false
set_option linter.unusedSimpArgs false
namespace Mine
local macro_rules
  | `(tactic| ktr_unf) => `(tactic| simp only [wpT, wpE, wpEs, wpTr, truthD, wpBin, optP, cmpD, itemD, eq4, setAll, List.map_cons, List.map_nil, List.reverse_cons, List.reverse_nil, List.nil_append, List.cons_append, List.getElem?_cons_zero, List.getElem?_cons_succ, List.set_cons_zero, List.set_cons_succ, Option.some.injEq, PyData.int.injEq, PyData.bool.injEq, PyData.tuple.injEq, PyData.str.injEq, decide_eq_true_eq, Bool.not_eq_true', decide_eq_false_iff_not, num])
local macro_rules
  | `(tactic| ktr_rel) => `(tactic| (simp only [setAll, List.reverse_cons, List.reverse_nil, List.nil_append, List.cons_append, List.set_cons_zero, List.set_cons_succ]; rfl))


theorem shd_c {m : Mode} (hm : m ≠ .n) : shdD (.str (mch m)) = some (.tuple [.int (if dn 0 m then 1 else 0), .int (if dn 1 m then 1 else 0)]) := by
  cases m with
  | n => exact absurd rfl hm
  | f => kernel_rfl
  | c => kernel_rfl
  | d => kernel_rfl
  | u => kernel_rfl
theorem mch_n {m : Mode} : (mch m == chN) = true ↔ m = .n := by
  cases m with
  | n => exact ⟨fun _ => rfl, fun _ => by decide⟩
  | f => exact ⟨fun h => absurd h (by decide), fun h => nomatch h⟩
  | c => exact ⟨fun h => absurd h (by decide), fun h => nomatch h⟩
  | d => exact ⟨fun h => absurd h (by decide), fun h => nomatch h⟩
  | u => exact ⟨fun h => absurd h (by decide), fun h => nomatch h⟩

section
variable {ok : Str → List D → D → Prop} (ht : ∀ {x q : Int} {k : Nat}, 0 < x → x = q * 2 ^ k → q % 2 = 1 → ok ("trailing" : Str) [.int x] (.int k))

include ht in
theorem norm_tail {sg man1 exp1 bc1 q : Int} {k : Nat} {N : Rho → Prop} {o4 o5 o6 o7 : Option D} (h0 : 0 < man1) (e : man1 = q * 2 ^ k) (hq : q % 2 = 1) (hb : bc1 = Builtin.Int.intBits man1 ∨ q = 1) :
    wpSs ok [some (.int sg), some (.int man1), some (.int exp1), some (.int bc1), o4, o5, o6, o7] (b_norm0.drop 3) N (· = num sg q (exp1 + k) (Builtin.Int.intBits q)) := by
  show wpSs ok _ [MS.ite _ _ _, MS.ite _ _ _, MS.ret _] N _
  have hk := pow_pos2 k
  have hq0 : 0 < q := by
    by_cases z : 0 < q
    · exact z
    · have : q * 2 ^ k ≤ 0 := Int.mul_nonpos_of_nonpos_of_nonneg (by omega) (by omega)
      omega
  have hbits := bits_mul (k := k) hq0
  rw [← e] at hbits
  have last : ∀ {bc2 : Int} {o7 : Option D}, (bc2 = Builtin.Int.intBits q ∨ q = 1) → wpSs ok [some (.int sg), some (.int q), some (.int (exp1 + k)), some (.int bc2), o4, o5, o6, o7] (b_norm0.drop 4) N (· = num sg q (exp1 + k) (Builtin.Int.intBits q)) := by
    intro bc2 o7 hb
    show wpSs ok _ [MS.ite _ _ _, MS.ret _] N _
    refine st_ite (C := q = 1) (by ktr_unf) (fun z => ?_) (fun z => ?_)
    · subst z
      refine st_asg (x := .int 1) (by ktr_unf) (by ktr_rel) (st_nil (st_ret ?_))
      ktr_unf
      trivial
    · refine st_nil (st_ret ?_)
      ktr_unf
      rw [hb.resolve_right z]
  have hpar : man1 % 2 = 1 ↔ k = 0 := by
    cases k with
    | zero => simp at e; simp; omega
    | succ k => rw [Int.pow_succ, ← Int.mul_assoc] at e; simp; omega
  refine st_ite (C := k ≠ 0) (t_iff (t_not (t_int (x := man1 % 2) (by ktr_unf; exact and1 _))) (by omega)) (fun z => ?_) (fun z => ?_)
  · refine st_asg (x := .int k) (e_call (ds := [.int man1]) (by ktr_unf) (ht h0 e hq) rfl) (by ktr_rel) ?_
    refine st_aug (y := .int man1) (z := .int k) (x := .int q) rfl (by ktr_unf) ?_ (by ktr_rel) ?_
    · show 0 ≤ (k : Int) ∧ PyData.int (man1.fdiv (2 ^ (k : Int).toNat)) = .int q
      refine ⟨by omega, ?_⟩
      rw [Int.toNat_natCast, e, PySem.W.kbt_q1]
    refine st_aug (y := .int exp1) (z := .int k) (x := .int (exp1 + k)) rfl (by ktr_unf) rfl (by ktr_rel) ?_
    refine st_aug (y := .int bc1) (z := .int k) (x := .int (bc1 - k)) rfl (by ktr_unf) rfl (by ktr_rel) (st_nil ?_)
    exact last (hb.imp (fun y => by omega) id)
  · have z' : k = 0 := by omega
    subst z'
    have : man1 = q := by simpa using e
    subst this
    refine st_nil ?_
    have := last (bc2 := bc1) (o7 := o7) hb
    have e9 : exp1 + ((0 : Nat) : Int) = exp1 := Int.add_zero _
    rw [e9] at this ⊢
    exact this

include ht in
theorem norm0_walk {sg man exp : Int} {p : Nat} {m : Mode} {N : Rho → Prop} {m1 exp1 q : Int} {k : Nat} (hsg : sg = 0 ∨ sg = 1) (h0 : 0 < man) (hp : 1 ≤ p) (hsz : Builtin.Int.intBits man ≤ 1000000)
    (h1 : (Builtin.Int.intBits man ≤ p ∧ m1 = man ∧ exp1 = exp) ∨ (∃ n, Builtin.Int.intBits man = p + (n + 1) ∧ m1 = man1 sg m man n ∧ exp1 = exp + (n + 1) ∧ (p = Builtin.Int.intBits m1 ∨ q = 1)))
    (hm1 : 0 < m1) (e : m1 = q * 2 ^ k) (hq : q % 2 = 1) {o6 o7 : Option D} :
    wpSs ok [some (.int sg), some (.int man), some (.int exp), some (.int (Builtin.Int.intBits man)), some (.int p), some (.str (mch m)), o6, o7] b_norm0 N (· = num sg q (exp1 + k) (Builtin.Int.intBits q)) := by
  unfold b_norm0
  refine st_ite (C := man = 0) (t_iff (t_not (t_int (x := man) (by ktr_unf))) (by simp)) (fun z => by omega) (fun _ => st_nil ?_)
  refine st_asg (x := .int (Builtin.Int.intBits man - p)) (by ktr_unf) (by ktr_rel) ?_
  refine st_ite (C := (0 : Int) < Builtin.Int.intBits man - p) (by ktr_unf) (fun z => ?_) (fun z => ?_)
  · rcases h1 with h1 | ⟨n, hb, rfl, rfl, hbc⟩
    · omega
    have hn : ((Builtin.Int.intBits man : Int) - p) = ((n + 1 : Nat) : Int) := by omega
    rw [hn]
    have tl : ∀ {o7 : Option D}, wpSs ok [some (.int sg), some (.int (man1 sg m man n)), some (.int exp), some (.int (Builtin.Int.intBits man)), some (.int p), some (.str (mch m)), some (.int ((n + 1 : Nat) : Int)), o7] [MS.aug 2 .Add (.loc 6), MS.asg 3 (.loc 4)] (fun ρ' => wpSs ok ρ' (b_norm0.drop 3) N (· = num sg q (exp + (n + 1) + k) (Builtin.Int.intBits q))) (· = num sg q (exp + (n + 1) + k) (Builtin.Int.intBits q)) := by
      intro o7
      refine st_aug (y := .int exp) (z := .int ((n + 1 : Nat) : Int)) (x := .int (exp + (n + 1))) rfl (by ktr_unf) ?_ (by ktr_rel) ?_
      · show PyData.int (exp + ((n + 1 : Nat) : Int)) = _
        congr 1
      refine st_asg (x := .int p) (by ktr_unf) (by ktr_rel) (st_nil ?_)
      exact norm_tail ht hm1 e hq (hbc.imp (fun z => by omega) id)
    refine st_ite (C := m = .n) (t_iff (t_cmp (a := .str (mch m)) (b := .str chN) (by ktr_unf) (by ktr_unf) rfl Iff.rfl) mch_n) (fun hm => ?_) (fun hm => ?_)
    · have e1 : man1 sg m man n = mnr man n := by rw [hm]; rfl
      rw [e1] at tl
      refine st_asg (x := .int (man.fdiv (2 ^ n))) ?_ (by ktr_rel) ?_
      · ktr_unf
        exact ⟨by omega, by rw [show (((n + 1 : Nat) : Int) - 1).toNat = n by omega]⟩
      have hA : ∀ t : Int, t / 2 ^ 1 % 2 * 2 ^ 1 ≠ 0 ↔ t / 2 % 2 = 1 := fun t => by omega
      have d5 := Int.emod_nonneg man (show (2 : Int) ^ n ≠ 0 by have := pow_pos2 n; omega)
      refine st_ite (C := man.fdiv (2 ^ n) % 2 = 1 ∧ (man.fdiv (2 ^ n) / 2 % 2 = 1 ∨ man % 2 ^ n ≠ 0)) ?_ (fun z => ?_) (fun z => ?_)
      · refine t_and (t_iff (t_int (x := man.fdiv (2 ^ n) % 2) (by ktr_unf; exact and1 _)) (by omega)) (fun _ => t_or (t_iff (t_int (x := man.fdiv (2 ^ n) / 2 ^ 1 % 2 * 2 ^ 1) (by ktr_unf; exact PySem.W.kbt_bit _ 1)) (hA _)) (fun _ => t_int (x := man % 2 ^ n) ?_))
        ktr_unf
        rw [show (((n + 1 : Nat) : Int) - 1).toNat = n by omega]
        refine ⟨⟨by omega, ?_⟩, by rw [Int.one_mul, PySem.W.kbt_mask]⟩
        have : Builtin.Int.intBits 1 = 1 := rfl
        rw [this]
        omega
      · refine st_asg (x := .int (mnr man n)) ?_ (by ktr_rel) (st_nil (st_nil tl))
        ktr_unf
        refine ⟨by omega, ?_⟩
        unfold mnr
        rw [if_pos z]
        rfl
      · refine st_asg (x := .int (mnr man n)) ?_ (by ktr_rel) (st_nil (st_nil tl))
        ktr_unf
        refine ⟨by omega, ?_⟩
        unfold mnr
        rw [if_neg z]
        rfl
    · have e1 : man1 sg m man n = if dn sg m = true then mdn man n else mup man n := pick_dn hm
      refine st_ite (C := dn sg m = true) (t_iff (t_int (x := if dn sg m then 1 else 0) ?_) (by cases dn sg m <;> simp)) (fun z => ?_) (fun z => ?_)
      · ktr_unf
        rw [shd_c hm]
        rcases hsg with rfl | rfl <;> rfl
      · rw [if_pos z] at e1
        rw [e1] at tl
        refine st_aug (y := .int man) (z := .int ((n + 1 : Nat) : Int)) (x := .int (mdn man n)) rfl (by ktr_unf) ?_ (by ktr_rel) (st_nil (st_nil tl))
        exact ⟨by omega, rfl⟩
      · rw [if_neg z] at e1
        rw [e1] at tl
        refine st_asg (x := .int (mup man n)) ?_ (by ktr_rel) (st_nil (st_nil tl))
        ktr_unf
        exact ⟨by omega, rfl⟩
  · rcases h1 with ⟨h1, rfl, rfl⟩ | ⟨n, hb, _⟩
    · exact st_nil (norm_tail ht hm1 e hq (.inl rfl))
    · omega
end
end Mine

end

section
open PySem PySem.Calls
set_option maxRecDepth 100000
set_option linter.unusedVariables false
set_option linter.unusedSimpArgs false
namespace Mine
local macro_rules
  | `(tactic| ktr_unf) => `(tactic| simp only [wpT, wpE, wpEs, wpTr, truthD, wpBin, optP, cmpD, itemD, eq4, setAll, List.map_cons, List.map_nil, List.reverse_cons, List.reverse_nil, List.nil_append, List.cons_append, List.getElem?_cons_zero, List.getElem?_cons_succ, List.set_cons_zero, List.set_cons_succ, Option.some.injEq, PyData.int.injEq, PyData.bool.injEq, PyData.tuple.injEq, PyData.str.injEq, decide_eq_true_eq, Bool.not_eq_true', decide_eq_false_iff_not, num])

theorem is_mk {E sg m1 q e1 : Int} {k : Nat} (hsg : sg = 0 ∨ sg = 1) (h0 : 0 < m1) (e : m1 = q * 2 ^ k) (hq : q % 2 = 1) (hE : 1 ≤ e1 + E) : Is E (sv sg m1 * 2 ^ (e1 + E).toNat) (num sg q (e1 + k) (Builtin.Int.intBits q)) := by
  have hk := pow_pos2 k
  have hq0 : 0 < q := by
    by_cases z : 0 < q
    · exact z
    · have : q * 2 ^ k ≤ 0 := Int.mul_nonpos_of_nonpos_of_nonneg (by omega) (by omega)
      omega
  refine .inr ⟨sg, q, e1 + k, hsg, hq, hq0, by omega, rfl, ?_⟩
  rw [e, ← sv_mul, Int.mul_assoc, ← pow_add2]
  congr 2
  omega
theorem sv_abs {sg man : Int} {p : Nat} (h : man ≤ 2 ^ p) (h0 : 0 ≤ man) : -(2 ^ p) ≤ sv sg man ∧ sv sg man ≤ 2 ^ p := by
  have := pow_pos2 p
  unfold sv; split <;> omega
theorem fits_mk {sg man e : Int} {p : Nat} (h : man ≤ 2 ^ p) (h0 : 0 ≤ man) (he : 1 ≤ e) : Fits p (sv sg man * 2 ^ e.toNat) :=
  ⟨sv sg man, e.toNat - 1, by congr 2; omega, (sv_abs h h0).1, (sv_abs h h0).2⟩

theorem norm0_ok {W : Wd} {P : Params} (H : Here W P) {sg man : Int} {p : Nat} (exp : Int) (m : Mode) (hsg : sg = 0 ∨ sg = 1) (h0 : 0 ≤ man) (hp : 1 ≤ p) (hsz : Builtin.Int.intBits man ≤ 1000000) :
    ∃ d, Ok W 2 ("_normalize" : Str) [.int sg, .int man, .int exp, .int (Builtin.Int.intBits man), .int p, .str (mch m)] d ∧ ∀ E, 1 ≤ exp + E → ∃ r, Is E r d ∧ Rnd p (ex (sv sg man * 2 ^ (exp + E).toNat)) r m := by
  have use : ∀ {d : D}, wpSs (Ok W 1) [some (.int sg), some (.int man), some (.int exp), some (.int (Builtin.Int.intBits man)), some (.int p), some (.str (mch m)), none, none] b_norm0 (fun _ => False) (· = d) → Ok W 2 ("_normalize" : Str) [.int sg, .int man, .int exp, .int (Builtin.Int.intBits man), .int p, .str (mch m)] d := by
    intro d h
    exact fn_ok H 6 (k_norm0 P) (by kernel_rfl) (bnd_norm0_6 H.K _ _ _ _ _ _) rfl (by decide) h
  by_cases hz : man = 0
  · subst hz
    refine ⟨num 0 0 0 0, use ?_, fun E hE => ⟨0, .inl ⟨rfl, rfl⟩, ?_⟩⟩
    · unfold b_norm0
      refine st_ite (C := True) (t_iff (t_not (t_int (x := 0) (by ktr_unf))) (by simp)) (fun _ => ?_) (fun z => absurd trivial z)
      refine st_ret ?_
      ktr_unf
    · have : sv sg 0 * 2 ^ (exp + E).toNat = 0 := by unfold sv; split <;> simp
      rw [this]
      exact Rnd.ex (Fits.zero p) m
  · have h0 : 0 < man := by omega
    by_cases hb : Builtin.Int.intBits man ≤ p
    · obtain ⟨q, k, e, hq⟩ := odd_ex (x := man) (by omega)
      refine ⟨_, use (norm0_walk (fun a b c => trailing_ok H a b c) hsg h0 hp hsz (.inl ⟨hb, rfl, rfl⟩) h0 e hq), fun E hE => ⟨_, is_mk hsg h0 e hq hE, ?_⟩⟩
      have h2 := bits_lt (x := man) (by omega)
      have := pow_le2 hb
      exact Rnd.ex (fits_mk (by omega) (by omega) hE) m
    · obtain ⟨n, hn⟩ : ∃ n, Builtin.Int.intBits man = p + (n + 1) := ⟨Builtin.Int.intBits man - p - 1, by omega⟩
      have hpp := pow_pos2 p
      have main := fun w (hw : 1 ≤ w) => norm_rnd (m := m) hsg h0 hn hp hw
      have hr := (main 1 (by omega)).2
      have hm1 : 0 < man1 sg m man n := by omega
      obtain ⟨q, k, e, hq⟩ := odd_ex (x := man1 sg m man n) (by omega)
      have hbq : p = Builtin.Int.intBits (man1 sg m man n) ∨ q = 1 := by
        by_cases z : man1 sg m man n = 2 ^ p
        · right
          have : q * 2 ^ k = 1 * 2 ^ p := by omega
          exact (odd_uniq hq (by decide) this).2
        · left
          exact (bits_eq hm1 (by omega) hr.1).symm
      refine ⟨_, use (norm0_walk (fun a b c => trailing_ok H a b c) hsg h0 hp hsz (.inr ⟨n, hn, rfl, rfl, hbq⟩) hm1 e hq), fun E hE => ⟨_, is_mk hsg hm1 e hq (by omega), ?_⟩⟩
      have h3 := (main (exp + E).toNat (by omega)).1
      have h4 : (exp + (↑n + 1) + E).toNat = n + 1 + (exp + E).toNat := by omega
      rw [h4, sv_mul, sv_mul]
      exact h3

theorem normalize_ok {W : Wd} {P : Params} (H : Here W P) {sg man : Int} {p : Nat} (exp : Int) (m : Mode) (hsg : sg = 0 ∨ sg = 1) (h0 : 0 ≤ man) (hp : 1 ≤ p) (hsz : Builtin.Int.intBits man ≤ 1000000) :
    ∃ d, Ok W 3 ("normalize" : Str) [.int sg, .int man, .int exp, .int (Builtin.Int.intBits man), .int p, .str (mch m)] d ∧ ∀ E, 1 ≤ exp + E → ∃ r, Is E r d ∧ Rnd p (ex (sv sg man * 2 ^ (exp + E).toNat)) r m := by
  obtain ⟨d, h1, h2⟩ := norm0_ok H exp m hsg h0 hp hsz
  refine ⟨d, fn_ok H 6 (k_normalize P) (by kernel_rfl) (bnd_normalize_6 H.K _ _ _ _ _ _) rfl (by decide) ?_, h2⟩
  show wpSs _ [some (.int sg), some (.int man), some (.int exp), some (.int (Builtin.Int.intBits man)), some (.int p), some (.str (mch m))] b_normalize _ _
  unfold b_normalize
  refine st_asrt ?_ (st_asrt ?_ (st_ret ?_))
  · ktr_unf
  · ktr_unf
    exact h0
  · exact e_call (ds := [.int sg, .int man, .int exp, .int (Builtin.Int.intBits man), .int p, .str (mch m)]) (by ktr_unf) h1 rfl
end Mine

end

section
open PySem PySem.Calls
set_option maxRecDepth 100000
set_option linter.unusedVariables false
set_option linter.unusedSimpArgs false
namespace Mine

theorem wpBin_ex {op : Operator} {a b : D} {P : D → Prop} (h : wpBin op a b P) : ∃ d, P d ∧ ∀ P' : D → Prop, P' d → wpBin op a b P' := by
  unfold wpBin at h
  split at h <;> first | exact ⟨_, h, fun P' q => q⟩ | exact ⟨_, h.2, fun P' q => ⟨h.1, q⟩⟩ | exact h.elim
theorem wpTr_ex {d : D} {P : Bool → Prop} (h : wpTr d P) : ∃ b, P b ∧ ∀ P' : Bool → Prop, P' b → wpTr d P' := by
  obtain ⟨b, e, h⟩ := wpTr_of h
  exact ⟨b, h, fun P' q => wpTr_some e q⟩
theorem optP_ex {α : Type} {o : Option α} {P : α → Prop} (h : optP o P) : ∃ a, P a ∧ ∀ P' : α → Prop, P' a → optP o P' := by
  obtain ⟨a, e, h⟩ := optP_of h
  exact ⟨a, h, fun P' q => by rw [e]; exact q⟩
theorem wpEach_ex {f : D → (D → Prop) → Prop} (hf : ∀ d {P : D → Prop}, f d P → ∃ r, P r ∧ ∀ P' : D → Prop, P' r → f d P') : ∀ (l : List D) {P : List D → Prop}, wpEach f l P → ∃ ds, P ds ∧ ∀ P' : List D → Prop, P' ds → wpEach f l P'
  | [], P, h => ⟨[], h, fun P' q => q⟩
  | d :: l, P, h => by
    obtain ⟨r, ⟨h1, h2⟩, k⟩ := hf d h
    obtain ⟨rs, h3, k3⟩ := wpEach_ex hf l h2
    exact ⟨r :: rs, h3, fun P' q => k _ ⟨h1, k3 _ q⟩⟩

section
variable {ok : Str → List D → D → Prop}
mutual
theorem wpE_ex : ∀ (me : ME) {ρ : Rho} {P : D → Prop}, wpE ok ρ me P → ∃ d, P d ∧ ∀ P' : D → Prop, P' d → wpE ok ρ me P'
  | .loc i, ρ, P, h => by
    unfold wpE at h
    split at h
    · rename_i d e
      exact ⟨d, h, fun P' q => by unfold wpE; rw [e]; exact q⟩
    · exact h.elim
  | .gint _ _, ρ, P, h => by unfold wpE at h; exact ⟨_, h, fun P' q => by unfold wpE; exact q⟩
  | .gstr _ _, ρ, P, h => by unfold wpE at h; exact ⟨_, h, fun P' q => by unfold wpE; exact q⟩
  | .gtup _ _, ρ, P, h => by unfold wpE at h; exact ⟨_, h, fun P' q => by unfold wpE; exact q⟩
  | .int _, ρ, P, h => by unfold wpE at h; exact ⟨_, h, fun P' q => by unfold wpE; exact q⟩
  | .str _, ρ, P, h => by unfold wpE at h; exact ⟨_, h, fun P' q => by unfold wpE; exact q⟩
  | .bool _, ρ, P, h => by unfold wpE at h; exact ⟨_, h, fun P' q => by unfold wpE; exact q⟩
  | .bin op l r, ρ, P, h => by
    unfold wpE at h
    obtain ⟨a, h1, k1⟩ := wpE_ex l h
    obtain ⟨b, h2, k2⟩ := wpE_ex r h1
    obtain ⟨d, h3, k3⟩ := wpBin_ex h2
    exact ⟨d, h3, fun P' q => by unfold wpE; exact k1 _ (k2 _ (k3 _ q))⟩
  | .neg e, ρ, P, h => by
    unfold wpE at h
    obtain ⟨a, h1, k1⟩ := wpE_ex e h
    split at h1
    · exact ⟨_, h1, fun P' q => by unfold wpE; exact k1 _ q⟩
    · exact h1.elim
  | .not e, ρ, P, h => by
    unfold wpE at h
    obtain ⟨a, h1, k1⟩ := wpE_ex e h
    obtain ⟨b, h2, k2⟩ := wpTr_ex h1
    exact ⟨_, h2, fun P' q => by unfold wpE; exact k1 _ (k2 _ q)⟩
  | .and l r, ρ, P, h => by
    unfold wpE at h
    obtain ⟨a, h1, k1⟩ := wpE_ex l h
    obtain ⟨b, h2, k2⟩ := wpTr_ex h1
    cases b with
    | true =>
      obtain ⟨d, h3, k3⟩ := wpE_ex r (h2.1 rfl)
      exact ⟨d, h3, fun P' q => by unfold wpE; exact k1 _ (k2 _ ⟨fun _ => k3 _ q, fun z => Bool.noConfusion z⟩)⟩
    | false => exact ⟨_, h2.2 rfl, fun P' q => by unfold wpE; exact k1 _ (k2 _ ⟨fun z => Bool.noConfusion z, fun _ => q⟩)⟩
  | .or l r, ρ, P, h => by
    unfold wpE at h
    obtain ⟨a, h1, k1⟩ := wpE_ex l h
    obtain ⟨b, h2, k2⟩ := wpTr_ex h1
    cases b with
    | true => exact ⟨_, h2.1 rfl, fun P' q => by unfold wpE; exact k1 _ (k2 _ ⟨fun _ => q, fun z => Bool.noConfusion z⟩)⟩
    | false =>
      obtain ⟨d, h3, k3⟩ := wpE_ex r (h2.2 rfl)
      exact ⟨d, h3, fun P' q => by unfold wpE; exact k1 _ (k2 _ ⟨fun z => Bool.noConfusion z, fun _ => k3 _ q⟩)⟩
  | .cmp op l r, ρ, P, h => by
    unfold wpE at h
    obtain ⟨a, h1, k1⟩ := wpE_ex l h
    obtain ⟨b, h2, k2⟩ := wpE_ex r h1
    obtain ⟨d, h3, k3⟩ := optP_ex h2
    exact ⟨_, h3, fun P' q => by unfold wpE; exact k1 _ (k2 _ (k3 _ q))⟩
  | .ife c t f, ρ, P, h => by
    unfold wpE at h
    obtain ⟨a, h1, k1⟩ := wpE_ex c h
    obtain ⟨b, h2, k2⟩ := wpTr_ex h1
    cases b with
    | true =>
      obtain ⟨d, h3, k3⟩ := wpE_ex t (h2.1 rfl)
      exact ⟨d, h3, fun P' q => by unfold wpE; exact k1 _ (k2 _ ⟨fun _ => k3 _ q, fun z => Bool.noConfusion z⟩)⟩
    | false =>
      obtain ⟨d, h3, k3⟩ := wpE_ex f (h2.2 rfl)
      exact ⟨d, h3, fun P' q => by unfold wpE; exact k1 _ (k2 _ ⟨fun z => Bool.noConfusion z, fun _ => k3 _ q⟩)⟩
  | .tup es, ρ, P, h => by
    unfold wpE at h
    obtain ⟨a, h1, k1⟩ := wpEs_ex es h
    exact ⟨_, h1, fun P' q => by unfold wpE; exact k1 _ q⟩
  | .lst es, ρ, P, h => by
    unfold wpE at h
    obtain ⟨a, h1, k1⟩ := wpEs_ex es h
    exact ⟨_, h1, fun P' q => by unfold wpE; exact k1 _ q⟩
  | .item e i, ρ, P, h => by
    unfold wpE at h
    obtain ⟨a, h1, k1⟩ := wpE_ex e h
    obtain ⟨b, h2, k2⟩ := wpE_ex i h1
    obtain ⟨d, h3, k3⟩ := optP_ex h2
    exact ⟨_, h3, fun P' q => by unfold wpE; exact k1 _ (k2 _ (k3 _ q))⟩
  | .shd e, ρ, P, h => by
    unfold wpE at h
    obtain ⟨a, h1, k1⟩ := wpE_ex e h
    obtain ⟨d, h3, k3⟩ := optP_ex h1
    exact ⟨_, h3, fun P' q => by unfold wpE; exact k1 _ (k3 _ q)⟩
  | .call f es, ρ, P, h => by
    unfold wpE at h
    obtain ⟨a, ⟨d, h1, h2⟩, k1⟩ := wpEs_ex es h
    exact ⟨d, h2, fun P' q => by unfold wpE; exact k1 _ ⟨d, h1, q⟩⟩
  | .bl e, ρ, P, h => by
    unfold wpE at h
    obtain ⟨a, h1, k1⟩ := wpE_ex e h
    split at h1
    · exact ⟨_, h1, fun P' q => by unfold wpE; exact k1 _ q⟩
    · exact h1.elim
  | .isInt e, ρ, P, h => by
    unfold wpE at h
    obtain ⟨a, h1, k1⟩ := wpE_ex e h
    split at h1
    · exact ⟨_, h1, fun P' q => by unfold wpE; exact k1 _ q⟩
    · exact h1.elim
  | .toInt e, ρ, P, h => by
    unfold wpE at h
    obtain ⟨a, h1, k1⟩ := wpE_ex e h
    split at h1
    · exact ⟨_, h1, fun P' q => by unfold wpE; exact k1 _ q⟩
    · exact h1.elim
  | .dvm a b, ρ, P, h => by
    unfold wpE at h
    obtain ⟨x, h1, k1⟩ := wpE_ex a h
    obtain ⟨y, h2, k2⟩ := wpE_ex b h1
    split at h2
    · exact ⟨_, h2.2, fun P' q => by unfold wpE; exact k1 _ (k2 _ ⟨h2.1, q⟩)⟩
    · exact h2.elim
  | .mx a b, ρ, P, h => by
    unfold wpE at h
    obtain ⟨x, h1, k1⟩ := wpE_ex a h
    obtain ⟨y, h2, k2⟩ := wpE_ex b h1
    split at h2
    · exact ⟨_, h2, fun P' q => by unfold wpE; exact k1 _ (k2 _ q)⟩
    · exact h2.elim
  | .len e, ρ, P, h => by
    unfold wpE at h
    obtain ⟨a, h1, k1⟩ := wpE_ex e h
    split at h1
    · exact ⟨_, h1.2, fun P' q => by unfold wpE; exact k1 _ ⟨h1.1, q⟩⟩
    · exact h1.elim
  | .all e, ρ, P, h => by
    unfold wpE at h
    obtain ⟨a, h1, k1⟩ := wpE_ex e h
    split at h1
    · obtain ⟨d, h3, k3⟩ := optP_ex h1
      exact ⟨_, h3, fun P' q => by unfold wpE; exact k1 _ (k3 _ q)⟩
    · exact h1.elim
  | .comp src x elt, ρ, P, h => by
    unfold wpE at h
    obtain ⟨ds, h1, k1⟩ := wpEach_ex (f := fun d k => wpE ok (some d :: ρ) elt k) (fun d P h => wpE_ex elt h) (srcD src) h
    exact ⟨_, h1, fun P' q => by unfold wpE; exact k1 _ q⟩
  | .bad, ρ, P, h => by unfold wpE at h; exact h.elim
theorem wpEs_ex : ∀ (es : List ME) {ρ : Rho} {P : List D → Prop}, wpEs ok ρ es P → ∃ ds, P ds ∧ ∀ P' : List D → Prop, P' ds → wpEs ok ρ es P'
  | [], ρ, P, h => by unfold wpEs at h; exact ⟨[], h, fun P' q => by unfold wpEs; exact q⟩
  | e :: es, ρ, P, h => by
    unfold wpEs at h
    obtain ⟨d, h1, k1⟩ := wpE_ex e h
    obtain ⟨ds, h2, k2⟩ := wpEs_ex es h1
    exact ⟨d :: ds, h2, fun P' q => by unfold wpEs; exact k1 _ (k2 _ q)⟩
end
theorem wpT_ex {c : ME} {ρ : Rho} {P : Bool → Prop} (h : wpT ok ρ c P) : ∃ b, P b ∧ ∀ P' : Bool → Prop, P' b → wpT ok ρ c P' := by
  unfold wpT at h ⊢
  obtain ⟨d, h1, k1⟩ := wpE_ex c h
  obtain ⟨b, h2, k2⟩ := wpTr_ex h1
  exact ⟨b, h2, fun P' q => k1 _ (k2 _ q)⟩

/-- where a text ends -/
abbrev Ends (F : (Rho → Prop) → (D → Prop) → Prop) (N : Rho → Prop) (R : D → Prop) : Prop :=
  (∃ ρ', N ρ' ∧ ∀ N' R', N' ρ' → F N' R') ∨ ∃ d, R d ∧ ∀ N' R', R' d → F N' R'

theorem wpFor_ex {f : Rho → (Rho → Prop) → (D → Prop) → Prop} (hf : ∀ {ρ N R}, f ρ N R → Ends (f ρ) N R) {i : Nat} : ∀ (l : List D) {ρ : Rho} {N : Rho → Prop} {R : D → Prop}, wpFor (fun ρ' k => f ρ' k R) i l ρ N → Ends (fun N R => wpFor (fun ρ' k => f ρ' k R) i l ρ N) N R
  | [], ρ, N, R, h => .inl ⟨ρ, h, fun N' R' q => q⟩
  | d :: l, ρ, N, R, h => by
    rcases hf h with ⟨ρ', h1, k1⟩ | ⟨d, h1, k1⟩
    · rcases wpFor_ex (f := f) (R := R) hf l h1 with ⟨ρ2, h2, k2⟩ | ⟨d, h2, k2⟩
      · exact .inl ⟨ρ2, h2, fun N' R' q => k1 _ _ (k2 _ _ q)⟩
      · exact .inr ⟨d, h2, fun N' R' q => k1 _ _ (k2 _ _ q)⟩
    · exact .inr ⟨d, h1, fun N' R' q => k1 _ _ q⟩

mutual
theorem wpS_ex : ∀ (s : MS) {ρ : Rho} {N : Rho → Prop} {R : D → Prop}, wpS ok ρ s N R → Ends (wpS ok ρ s) N R
  | .asg i e, ρ, N, R, h => by
    unfold wpS at h
    obtain ⟨d, h1, k1⟩ := wpE_ex e h
    exact .inl ⟨_, h1, fun N' R' q => by unfold wpS; exact k1 _ q⟩
  | .asgT l e, ρ, N, R, h => by
    unfold wpS at h
    obtain ⟨d, h1, k1⟩ := wpE_ex e h
    split at h1
    · obtain ⟨d, h3, k3⟩ := optP_ex h1
      exact .inl ⟨_, h3, fun N' R' q => by unfold wpS; exact k1 _ (k3 _ q)⟩
    · obtain ⟨d, h3, k3⟩ := optP_ex h1
      exact .inl ⟨_, h3, fun N' R' q => by unfold wpS; exact k1 _ (k3 _ q)⟩
    · exact h1.elim
  | .asgW l es, ρ, N, R, h => by
    unfold wpS at h
    obtain ⟨d, h1, k1⟩ := wpEs_ex es h
    obtain ⟨d, h3, k3⟩ := optP_ex h1
    exact .inl ⟨_, h3, fun N' R' q => by unfold wpS; exact k1 _ (k3 _ q)⟩
  | .aug i op e, ρ, N, R, h => by
    unfold wpS at h
    split at h
    · rename_i a ea
      obtain ⟨d, h1, k1⟩ := wpE_ex e h
      obtain ⟨b, h2, k2⟩ := wpBin_ex h1
      exact .inl ⟨_, h2, fun N' R' q => by unfold wpS; rw [ea]; exact k1 _ (k2 _ q)⟩
    · exact h.elim
  | .ite c a b, ρ, N, R, h => by
    unfold wpS at h
    obtain ⟨t, h1, k1⟩ := wpT_ex h
    cases t with
    | true =>
      rcases wpSs_ex a (h1.1 rfl) with ⟨ρ', h2, k2⟩ | ⟨d, h2, k2⟩
      · exact .inl ⟨ρ', h2, fun N' R' q => by unfold wpS; exact k1 _ ⟨fun _ => k2 _ _ q, fun z => Bool.noConfusion z⟩⟩
      · exact .inr ⟨d, h2, fun N' R' q => by unfold wpS; exact k1 _ ⟨fun _ => k2 _ _ q, fun z => Bool.noConfusion z⟩⟩
    | false =>
      rcases wpSs_ex b (h1.2 rfl) with ⟨ρ', h2, k2⟩ | ⟨d, h2, k2⟩
      · exact .inl ⟨ρ', h2, fun N' R' q => by unfold wpS; exact k1 _ ⟨fun z => Bool.noConfusion z, fun _ => k2 _ _ q⟩⟩
      · exact .inr ⟨d, h2, fun N' R' q => by unfold wpS; exact k1 _ ⟨fun z => Bool.noConfusion z, fun _ => k2 _ _ q⟩⟩
  | .whl c a, ρ, N, R, h => by
    unfold wpS at h
    obtain ⟨I, ⟨n, h0⟩, hs⟩ := h
    have main : ∀ (n : Nat) (ρ : Rho), I n ρ → Ends (wpS ok ρ (.whl c a)) N R := by
      intro n
      induction n using Nat.strongRecOn with
      | ind n ih =>
        intro ρ h0
        obtain ⟨t, h1, k1⟩ := wpT_ex (hs n ρ h0)
        cases t with
        | false =>
          refine .inl ⟨ρ, h1.2 rfl, fun N' R' q => ?_⟩
          unfold wpS
          exact ⟨fun k σ => σ = ρ, ⟨0, rfl⟩, fun k σ e => by subst e; exact k1 _ ⟨fun z => Bool.noConfusion z, fun _ => q⟩⟩
        | true =>
          rcases wpSs_ex a (h1.1 rfl) with ⟨ρ', ⟨m, hm, hI⟩, k2⟩ | ⟨d, h2, k2⟩
          · have back : ∀ N' R', wpS ok ρ' (.whl c a) N' R' → wpS ok ρ (.whl c a) N' R' := by
              intro N' R' q
              unfold wpS at q ⊢
              obtain ⟨J, ⟨j, j0⟩, js⟩ := q
              refine ⟨fun k σ => (σ = ρ ∧ k = j + 1) ∨ J k σ, ⟨j + 1, .inl ⟨rfl, rfl⟩⟩, fun k σ e => ?_⟩
              rcases e with ⟨rfl, rfl⟩ | e
              · exact k1 _ ⟨fun _ => k2 _ _ ⟨j, Nat.lt_succ_self _, .inr j0⟩, fun z => Bool.noConfusion z⟩
              · obtain ⟨t, h3, k3⟩ := wpT_ex (js k σ e)
                refine k3 _ ⟨fun z => ?_, h3.2⟩
                rcases wpSs_ex a (h3.1 z) with ⟨ρ4, ⟨m4, hm4, hI4⟩, k4⟩ | ⟨d4, h4, k4⟩
                · exact k4 _ _ ⟨m4, hm4, .inr hI4⟩
                · exact k4 _ _ h4
            rcases ih m hm ρ' hI with ⟨ρ5, h5, k5⟩ | ⟨d, h5, k5⟩
            · exact .inl ⟨ρ5, h5, fun N' R' q => back _ _ (k5 _ _ q)⟩
            · exact .inr ⟨d, h5, fun N' R' q => back _ _ (k5 _ _ q)⟩
          · refine .inr ⟨d, h2, fun N' R' q => ?_⟩
            unfold wpS
            exact ⟨fun k σ => σ = ρ, ⟨0, rfl⟩, fun k σ e => by subst e; exact k1 _ ⟨fun _ => k2 _ _ q, fun z => Bool.noConfusion z⟩⟩
    exact main n ρ h0
  | .forS i x a, ρ, N, R, h => by
    unfold wpS at h
    rcases wpFor_ex (f := fun ρ' k R => wpSs ok ρ' a k R) (fun h => wpSs_ex a h) (srcD (.text x)) h with ⟨ρ', h2, k2⟩ | ⟨d, h2, k2⟩
    · exact .inl ⟨ρ', h2, fun N' R' q => by unfold wpS; exact k2 _ _ q⟩
    · exact .inr ⟨d, h2, fun N' R' q => by unfold wpS; exact k2 _ _ q⟩
  | .ret e, ρ, N, R, h => by
    unfold wpS at h
    obtain ⟨d, h1, k1⟩ := wpE_ex e h
    exact .inr ⟨d, h1, fun N' R' q => by unfold wpS; exact k1 _ q⟩
  | .asrt c, ρ, N, R, h => by
    unfold wpS at h
    obtain ⟨t, h1, k1⟩ := wpT_ex h
    exact .inl ⟨ρ, h1.2, fun N' R' q => by unfold wpS; exact k1 _ ⟨h1.1, q⟩⟩
  | .bad, ρ, N, R, h => by unfold wpS at h; exact h.elim
theorem wpSs_ex : ∀ (l : List MS) {ρ : Rho} {N : Rho → Prop} {R : D → Prop}, wpSs ok ρ l N R → Ends (wpSs ok ρ l) N R
  | [], ρ, N, R, h => by unfold wpSs at h; exact .inl ⟨ρ, h, fun N' R' q => by unfold wpSs; exact q⟩
  | s :: l, ρ, N, R, h => by
    unfold wpSs at h
    rcases wpS_ex s h with ⟨ρ', h1, k1⟩ | ⟨d, h1, k1⟩
    · rcases wpSs_ex l h1 with ⟨ρ2, h2, k2⟩ | ⟨d, h2, k2⟩
      · exact .inl ⟨ρ2, h2, fun N' R' q => by unfold wpSs; exact k1 _ _ (k2 _ _ q)⟩
      · exact .inr ⟨d, h2, fun N' R' q => by unfold wpSs; exact k1 _ _ (k2 _ _ q)⟩
    · exact .inr ⟨d, h1, fun N' R' q => by unfold wpSs; exact k1 _ _ q⟩
end
end

/-- a def's answer, known by what holds of it -/
theorem fn_ex {W : Wd} {P : Params} (H : Here W P) {f : Str} {ns : List Str} {body : List MS} {args full : List D} {Q : D → Prop} {n : Nat} (j : Nat) (hk : fnChk (Mine.hd.heap_39 P) f ns body = true) (hl : locChk (Mine.hd.heap_39 P) f (ns.take j) = true)
    (hb : BindOK W f (ns.take j) args full) (hj : j = full.length) (hlen : j ≤ ns.length) (h : wpSs (Ok W n) (full.map some ++ List.replicate (ns.length - j) none) body (fun _ => False) Q) : ∃ d, Ok W (n + 1) f args d ∧ Q d := by
  rcases wpSs_ex _ h with ⟨_, h1, _⟩ | ⟨d, h1, k1⟩
  · exact h1.elim
  · exact ⟨d, fn_ok H j hk hl hb hj hlen (k1 _ _ rfl), h1⟩
end Mine

end

section
open PySem PySem.Calls
set_option maxRecDepth 100000
set_option linter.unusedVariables false
set_option linter.unusedSimpArgs false
namespace Mine
local macro_rules
  | `(tactic| ktr_unf) => `(tactic| simp only [wpT, wpE, wpEs, wpTr, truthD, wpBin, optP, cmpD, itemD, eq4, setAll, List.map_cons, List.map_nil, List.reverse_cons, List.reverse_nil, List.nil_append, List.cons_append, List.getElem?_cons_zero, List.getElem?_cons_succ, List.set_cons_zero, List.set_cons_succ, Option.some.injEq, PyData.int.injEq, PyData.bool.injEq, PyData.tuple.injEq, PyData.str.injEq, decide_eq_true_eq, Bool.not_eq_true', decide_eq_false_iff_not, num])
local macro_rules
  | `(tactic| ktr_rel) => `(tactic| (simp only [setAll, List.reverse_cons, List.reverse_nil, List.nil_append, List.cons_append, List.set_cons_zero, List.set_cons_succ]; rfl))


section
variable {ok : Str → List D → D → Prop} {ρ : Rho} {es : List ME}
theorem e_callx {f : Str} {ds : List D} {P : D → Prop} (h1 : wpEs ok ρ es (· = ds)) (h2 : ∃ d, ok f ds d ∧ P d) : wpE ok ρ (.call f es) P := by
  obtain ⟨d, a, b⟩ := h2
  exact e_call h1 a b
end

/-- a number's parts -/
structure Pt (E X : Int) (d : D) (sg man exp : Int) : Prop where
  hd : d = num sg man exp (Builtin.Int.intBits man)
  hsg : sg = 0 ∨ sg = 1
  hman : 0 ≤ man
  hexp : 1 ≤ exp + E
  hX : X = sv sg man * 2 ^ (exp + E).toNat
  hz : man = 0 → sg = 0 ∧ exp = 0
  hodd : man ≠ 0 → man % 2 = 1
theorem Is.pt {E X : Int} {d : D} (h : Is E X d) (hE : 1 ≤ E) : ∃ sg man exp, Pt E X d sg man exp := by
  obtain ⟨sg, man, exp, bc, e, h1, h2, h3, h4, h5⟩ := h.parts
  subst h3
  by_cases hz : man = 0
  · obtain ⟨rfl, rfl, h6, rfl⟩ := h4 hz
    subst hz
    exact ⟨0, 0, 0, e, .inl rfl, by omega, by omega, by unfold sv; simp, fun _ => ⟨rfl, rfl⟩, fun h => absurd rfl h⟩
  · obtain ⟨h6, h7, h8⟩ := h5 hz
    exact ⟨sg, man, exp, e, h1, h2, h7, h8, fun h => absurd h hz, fun _ => h6⟩
theorem Pt.is {E X : Int} {d : D} {sg man exp : Int} (h : Pt E X d sg man exp) : Is E X d := by
  by_cases hz : man = 0
  · obtain ⟨e1, e2⟩ := h.hz hz
    have := h.hX
    have := h.hd
    subst hz; subst e1; subst e2
    exact .inl ⟨by rw [h.hX]; unfold sv; simp, h.hd⟩
  · exact .inr ⟨sg, man, exp, h.hsg, h.hodd hz, by have := h.hman; omega, h.hexp, h.hd, h.hX⟩
theorem natAbs_sv (sg man : Int) : (sv sg man).natAbs = man.natAbs := by unfold sv; split <;> omega
theorem Pt.natAbs {E X : Int} {d : D} {sg man exp : Int} (h : Pt E X d sg man exp) : X.natAbs = man.natAbs * 2 ^ (exp + E).toNat := by
  rw [h.hX, Int.natAbs_mul, natAbs_sv, Int.natAbs_pow]
  rfl
theorem Pt.bits {E X : Int} {d : D} {sg man exp : Int} {K : Nat} (h : Pt E X d sg man exp) (hK : X.natAbs < 2 ^ K) : Builtin.Int.intBits man ≤ K ∧ (man ≠ 0 → exp + E + Builtin.Int.intBits man ≤ K + 1) := by
  have h1 := h.natAbs
  have h2 : 1 ≤ 2 ^ (exp + E).toNat := Nat.one_le_two_pow
  have h3 : man.natAbs ≤ X.natAbs := by rw [h1]; exact Nat.le_mul_of_pos_right _ (by omega)
  refine ⟨PySem.intBits_le_iff.mpr (by omega), fun hz => ?_⟩
  have hm : 0 < man := by have := h.hman; omega
  have h5 := bits_mul (k := (exp + E).toNat) hm
  have h6 : Builtin.Int.intBits (man * 2 ^ (exp + E).toNat) ≤ K := PySem.intBits_le_iff.mpr (by
    rw [Int.natAbs_mul, Int.natAbs_pow]
    exact h1 ▸ hK)
  have := h.hexp
  omega

theorem mpf_pos_ok {W : Wd} {P : Params} (H : Here W P) {E X : Int} {s : D} {p : Nat} (m : Mode) (h : Is E X s) (hE : 1 ≤ E) (hX : X.natAbs < 2 ^ 100000) (hp : 1 ≤ p) :
    ∃ d, Ok W 4 ("mpf_pos" : Str) [s, .int p, .str (mch m)] d ∧ ∃ r, Is E r d ∧ Rnd p (ex X) r m := by
  obtain ⟨sg, man, exp, k⟩ := h.pt hE
  refine fn_ex H 3 (k_mpf_pos P) (by kernel_rfl) (bnd_mpf_pos_3 H.K _ _ _) rfl (by decide) ?_
  show wpSs _ [some s, some (.int p), some (.str (mch m)), none, none, none, none] b_mpf_pos _ _
  rw [k.hd]
  unfold b_mpf_pos
  refine st_ite (C := True) (t_iff (t_int (x := p) (by ktr_unf)) (by simp; omega)) (fun _ => ?_) (fun z => absurd trivial z)
  refine st_asgT (ds := [.int sg, .int man, .int exp, .int (Builtin.Int.intBits man)]) (by ktr_unf) (by ktr_rel) ?_
  refine st_ite (C := False) (t_iff (t_and (t_not (t_int (x := man) (by ktr_unf))) fun _ => t_int (x := exp) (by ktr_unf)) ?_) (fun z => z.elim) (fun _ => st_nil (st_ret ?_))
  · have := k.hz; simp; omega
  · have hb := (k.bits hX).1
    obtain ⟨d, h1, h2⟩ := normalize_ok H exp m k.hsg k.hman hp (by omega)
    obtain ⟨r, h3, h4⟩ := h2 E k.hexp
    rw [← k.hX] at h4
    exact e_callx (by ktr_unf) ⟨d, h1, r, h3, h4⟩

theorem mpf_abs_ok {W : Wd} {P : Params} (H : Here W P) {E X : Int} {s : D} (h : Is E X s) (hE : 1 ≤ E) :
    ∃ d, Ok W 1 ("mpf_abs" : Str) [s] d ∧ Is E (if 0 ≤ X then X else -X) d := by
  obtain ⟨sg, man, exp, k⟩ := h.pt hE
  refine fn_ex H 3 (k_mpf_abs P) (by kernel_rfl) (bnd_mpf_abs_1 H.K _) rfl (by decide) ?_
  show wpSs _ [some s, some (.int 0), some (.str chD), none, none, none, none] b_mpf_abs _ _
  rw [k.hd]
  unfold b_mpf_abs
  refine st_asgT (ds := [.int sg, .int man, .int exp, .int (Builtin.Int.intBits man)]) (by ktr_unf) (by ktr_rel) ?_
  refine st_ite (C := False) (t_iff (t_and (t_not (t_int (x := man) (by ktr_unf))) fun _ => t_int (x := exp) (by ktr_unf)) ?_) (fun z => z.elim) (fun _ => st_nil ?_)
  · have := k.hz; simp; omega
  have h2 := pow_pos2 (exp + E).toNat
  have h3 : 0 ≤ man * 2 ^ (exp + E).toNat := Int.mul_nonneg k.hman (by omega)
  refine st_ite (C := True) (t_iff (t_not (t_int (x := 0) (by ktr_unf))) (by simp)) (fun _ => ?_) (fun z => absurd trivial z)
  refine st_ite (C := sg ≠ 0) (t_int (by ktr_unf)) (fun z => st_ret ?_) (fun z => st_nil (st_ret ?_))
  · have hm : man ≠ 0 := fun q => z (k.hz q).1
    ktr_unf
    have e : (if 0 ≤ X then X else -X) = man * 2 ^ (exp + E).toNat := by
      have : X = -(man * 2 ^ (exp + E).toNat) := by rw [k.hX]; unfold sv; rw [if_neg z, Int.neg_mul]
      have hpos : 0 < man * 2 ^ (exp + E).toNat := Int.mul_pos (by have := k.hman; omega) h2
      rw [if_neg (by omega)]; omega
    rw [e]
    exact Pt.is ⟨rfl, .inl rfl, k.hman, k.hexp, by unfold sv; simp, fun q => absurd q hm, k.hodd⟩
  · have z : sg = 0 := by omega
    ktr_unf
    have e : (if 0 ≤ X then X else -X) = X := by
      have : X = man * 2 ^ (exp + E).toNat := by rw [k.hX]; unfold sv; rw [if_pos z]
      rw [if_pos (by omega)]
    rw [e]
    exact Pt.is (k.hd ▸ k)

theorem mpf_neg_ok {W : Wd} {P : Params} (H : Here W P) {sg man exp bc : Int} (hz : man = 0 → exp = 0) :
    Ok W 1 ("mpf_neg" : Str) [num sg man exp bc] (if man = 0 then num sg man exp bc else num (1 - sg) man exp bc) := by
  refine fn_ok H 3 (k_mpf_neg P) (by kernel_rfl) (bnd_mpf_neg_1 H.K _) rfl (by decide) ?_
  show wpSs _ [some (num sg man exp bc), some (.int 0), some (.str chD), none, none, none, none] b_mpf_neg _ _
  unfold b_mpf_neg
  refine st_asgT (ds := [.int sg, .int man, .int exp, .int bc]) (by ktr_unf) (by ktr_rel) ?_
  refine st_ite (C := man = 0) (t_iff (t_not (t_int (x := man) (by ktr_unf))) (by simp)) (fun z => ?_) (fun z => st_nil ?_)
  · refine st_ite (C := False) (t_iff (t_int (x := exp) (by ktr_unf)) (by have := hz z; simp; omega)) (fun z => z.elim) (fun _ => st_nil (st_ret ?_))
    rw [if_pos z]
    ktr_unf
  · refine st_ite (C := True) (t_iff (t_not (t_int (x := 0) (by ktr_unf))) (by simp)) (fun _ => st_ret ?_) (fun z => absurd trivial z)
    rw [if_neg z]
    ktr_unf

theorem mpf_sign_ok {W : Wd} {P : Params} (H : Here W P) {sg man exp bc : Int} (hsg : sg = 0 ∨ sg = 1) (hz : man = 0 → exp = 0) :
    Ok W 1 ("mpf_sign" : Str) [num sg man exp bc] (.int (if man = 0 then 0 else if sg = 0 then 1 else -1)) := by
  refine fn_ok H 1 (k_mpf_sign P) (by kernel_rfl) (bnd_mpf_sign_1 H.K _) rfl (by decide) ?_
  show wpSs _ [some (num sg man exp bc), none, none, none, none] b_mpf_sign _ _
  unfold b_mpf_sign
  refine st_asgT (ds := [.int sg, .int man, .int exp, .int bc]) (by ktr_unf) (by ktr_rel) ?_
  refine st_ite (C := man = 0) (t_iff (t_not (t_int (x := man) (by ktr_unf))) (by simp)) (fun z => ?_) (fun z => st_nil (st_ret ?_))
  · have := hz z
    refine st_ite (C := False) (t_iff (t_cmp (a := num sg man exp bc) (b := num 0 0 (-456) (-2)) (by ktr_unf) (by ktr_unf) rfl Iff.rfl) (by simp; omega)) (fun z => z.elim) (fun _ => st_nil ?_)
    refine st_ite (C := False) (t_iff (t_cmp (a := num sg man exp bc) (b := num 1 0 (-789) (-3)) (by ktr_unf) (by ktr_unf) rfl Iff.rfl) (by simp; omega)) (fun z => z.elim) (fun _ => st_nil (st_ret ?_))
    rw [if_pos z]
    ktr_unf
  · rw [if_neg z]
    rcases hsg with rfl | rfl
    · ktr_unf
      exact ⟨⟨by omega, by decide⟩, rfl⟩
    · ktr_unf
      exact ⟨⟨by omega, by decide⟩, rfl⟩

theorem mpf_shift_ok {W : Wd} {P : Params} (H : Here W P) {sg man exp bc n : Int} :
    Ok W 1 ("mpf_shift" : Str) [num sg man exp bc, .int n] (if man = 0 then num sg man exp bc else num sg man (exp + n) bc) := by
  refine fn_ok H 2 (k_mpf_shift P) (by kernel_rfl) (bnd_mpf_shift_2 H.K _ _) rfl (by decide) ?_
  show wpSs _ [some (num sg man exp bc), some (.int n), none, none, none, none] b_mpf_shift _ _
  unfold b_mpf_shift
  refine st_asgT (ds := [.int sg, .int man, .int exp, .int bc]) (by ktr_unf) (by ktr_rel) ?_
  refine st_ite (C := man = 0) (t_iff (t_not (t_int (x := man) (by ktr_unf))) (by simp)) (fun z => st_ret ?_) (fun z => st_nil (st_ret ?_))
  · rw [if_pos z]
    ktr_unf
  · rw [if_neg z]
    ktr_unf
/-- moved by n: the same whole number at another scale -/
theorem shift_is {W : Wd} {P : Params} (H : Here W P) {E X : Int} {s : D} (n : Int) (h : Is E X s) : ∃ d, Ok W 1 ("mpf_shift" : Str) [s, .int n] d ∧ Is (E - n) X d := by
  obtain ⟨sg, man, exp, bc, rfl, h1, h2, rfl, h4, h5⟩ := h.parts
  refine ⟨_, mpf_shift_ok H, ?_⟩
  split
  · rename_i z
    obtain ⟨rfl, rfl, h6, rfl⟩ := h4 z
    subst z
    exact .inl ⟨rfl, rfl⟩
  · rename_i z
    exact h.shift z
end Mine

end

section
open PySem PySem.Calls
set_option maxRecDepth 100000
set_option linter.unusedVariables false
set_option linter.unusedSimpArgs false
namespace Mine
theorem far_pos {p v : Nat} {M T dl V : Int} (hM : 2 ^ (p + 1) ≤ 2 * M) (hT : -(2 ^ v) < T ∧ T < 2 ^ v) (hd : -(2 ^ v) < dl ∧ dl < 2 ^ v) (h : (0 < T ∧ 0 < dl) ∨ (T < 0 ∧ dl < 0)) (hV : Fits (p + 1) V) :
    (V ≤ M * 2 ^ (v + 1) + T ↔ V ≤ M * 2 ^ (v + 1) + dl) ∧ (M * 2 ^ (v + 1) + T ≤ V ↔ M * 2 ^ (v + 1) + dl ≤ V) := by
  have hv := pow_pos2 v
  have hp := pow_pos2 p
  have e2 : (2 : Int) ^ (v + 1) = 2 * 2 ^ v := by rw [Int.pow_succ, Int.mul_comm]
  have e3 : (2 : Int) ^ (p + 1) = 2 * 2 ^ p := by rw [Int.pow_succ, Int.mul_comm]
  have up : M * 2 ^ (v + 1) < V → M * 2 ^ (v + 1) + 2 * 2 ^ v ≤ V := fun q => by
    have := gap hM hV q
    rw [Int.add_mul, Int.one_mul, e2] at this
    rw [e2]; exact this
  have eS : M * 2 ^ (v + 1) = (2 * M) * 2 ^ v := by rw [e2, ← Int.mul_assoc, Int.mul_comm M 2]
  have lo : V < M * 2 ^ (v + 1) → V ≤ M * 2 ^ (v + 1) - 2 ^ v := fun q => by
    by_cases z : (2 * M - 1) * 2 ^ v < V
    · have := gap (M := 2 * M - 1) (v := v) (by omega) hV z
      rw [show 2 * M - 1 + 1 = 2 * M by omega, ← eS] at this
      omega
    · rw [Int.sub_mul, Int.one_mul, ← eS] at z
      omega
  generalize M * 2 ^ (v + 1) = S at *
  rcases h with h | h <;> constructor <;> constructor <;> intro q <;>
    (by_cases z : S < V
     · have := up z; omega
     · by_cases z2 : V < S
       · have := lo z2; omega
       · omega)
theorem abs_pow {sg man : Int} {k : Nat} (h0 : 0 < man) : (sg = 0 → 0 < sv sg man * 2 ^ k ∧ sv sg man * 2 ^ k < 2 ^ (Builtin.Int.intBits man + k)) ∧ (sg ≠ 0 → sv sg man * 2 ^ k < 0 ∧ -(2 ^ (Builtin.Int.intBits man + k)) < sv sg man * 2 ^ k) := by
  have hk := pow_pos2 k
  have h1 := Int.mul_lt_mul_of_pos_right (bits_lt (x := man) (by omega)) hk
  have h2 := Int.mul_pos h0 hk
  rw [← pow_add2] at h1
  unfold sv
  constructor <;> intro z
  · rw [if_pos z]; omega
  · rw [if_neg z, Int.neg_mul]; omega
theorem far_s {sg tg sm se tm te E : Int} {p : Nat} (hsg : sg = 0 ∨ sg = 1) (htg : tg = 0 ∨ tg = 1) (hs : 0 < sm) (ht : 0 < tm) (hE : p + 10 ≤ se + E) (hE2 : 1 ≤ te + E) (hb : Builtin.Int.intBits sm ≤ p + 1) (hfar : (p : Int) + 4 < Builtin.Int.intBits sm + se - Builtin.Int.intBits tm - te)
    {V : Int} (hV : Fits (p + 1) V) :
    (V ≤ sv sg sm * 2 ^ (se + E).toNat + sv tg tm * 2 ^ (te + E).toNat ↔ V ≤ sv sg (sm * 2 ^ (p + 4) + (if tg = sg then 1 else -1)) * 2 ^ (se - (p + 4) + E).toNat) ∧
    (sv sg sm * 2 ^ (se + E).toNat + sv tg tm * 2 ^ (te + E).toNat ≤ V ↔ sv sg (sm * 2 ^ (p + 4) + (if tg = sg then 1 else -1)) * 2 ^ (se - (p + 4) + E).toNat ≤ V) := by
  obtain ⟨w, hw⟩ : ∃ w : Nat, se - (p + 4) + E = w := ⟨(se - (p + 4) + E).toNat, by omega⟩
  have hsm := bits_pos hs
  obtain ⟨v, hv⟩ : ∃ v : Nat, w + Builtin.Int.intBits sm + 3 = v + 1 := ⟨w + Builtin.Int.intBits sm + 2, rfl⟩
  obtain ⟨c, hc⟩ : ∃ c : Nat, Builtin.Int.intBits sm + c = p + 1 := ⟨p + 1 - Builtin.Int.intBits sm, by omega⟩
  have hvv : (se + E).toNat = c + (v + 1) := by omega
  have hS : sm * 2 ^ (se + E).toNat = (sm * 2 ^ c) * 2 ^ (v + 1) := by rw [hvv, pow_add2, Int.mul_assoc]
  have hM : 2 ^ (p + 1) ≤ 2 * (sm * 2 ^ c) := by
    rw [← hc, pow_add2, ← Int.mul_assoc]
    exact Int.mul_le_mul_of_nonneg_right (bits_ge hs) (by have := pow_pos2 c; omega)
  have hT := abs_pow (sg := tg) (k := (te + E).toNat) ht
  have hTv : (2 : Int) ^ (Builtin.Int.intBits tm + (te + E).toNat) ≤ 2 ^ v := pow_le2 (by omega)
  have hwv : (2 : Int) ^ w < 2 ^ v := by
    have h1 : (2 : Int) ^ (w + 1) ≤ 2 ^ v := pow_le2 (by omega)
    have := pow_pos2 w
    rw [Int.pow_succ] at h1; omega
  have hw0 := pow_pos2 w
  have hSw : sm * 2 ^ (p + 4) * 2 ^ w = (sm * 2 ^ c) * 2 ^ (v + 1) := by
    rw [← hS, Int.mul_assoc, ← pow_add2]; congr 2; omega
  have hy : ∀ u : Int, (sm * 2 ^ (p + 4) + u) * 2 ^ w = (sm * 2 ^ c) * 2 ^ (v + 1) + u * 2 ^ w := fun u => by rw [Int.add_mul, hSw]
  rw [hw, Int.toNat_natCast]
  generalize hYY : sv tg tm * 2 ^ (te + E).toNat = Y at *
  rcases hsg with rfl | rfl
  · have e1 : sv 0 sm * 2 ^ (se + E).toNat = (sm * 2 ^ c) * 2 ^ (v + 1) := by unfold sv; rw [if_pos rfl, hS]
    have e2 : ∀ u : Int, sv 0 (sm * 2 ^ (p + 4) + u) * 2 ^ w = (sm * 2 ^ c) * 2 ^ (v + 1) + u * 2 ^ w := fun u => by unfold sv; rw [if_pos rfl, hy]
    rw [e1, e2]
    rcases htg with rfl | rfl
    · have := hT.1 rfl
      exact far_pos hM (by omega) (by simp; omega) (by simp; omega) hV
    · have := hT.2 (by omega)
      exact far_pos hM (by omega) (by simp; omega) (by simp; omega) hV
  · have e1 : sv 1 sm * 2 ^ (se + E).toNat = -((sm * 2 ^ c) * 2 ^ (v + 1)) := by unfold sv; rw [if_neg (by omega), Int.neg_mul, hS]
    have e2 : ∀ u : Int, sv 1 (sm * 2 ^ (p + 4) + u) * 2 ^ w = -((sm * 2 ^ c) * 2 ^ (v + 1) + u * 2 ^ w) := fun u => by unfold sv; rw [if_neg (by omega), Int.neg_mul, hy]
    rw [e1, e2]
    rcases htg with rfl | rfl
    · have := hT.1 rfl
      have k := far_pos (v := v) (M := sm * 2 ^ c) (T := -Y) (dl := (if (0 : Int) = 1 then 1 else -1) * 2 ^ w) hM (by omega) (by simp; omega) (by simp; omega) hV.neg
      generalize (sm * 2 ^ c) * 2 ^ (v + 1) = S at *
      generalize (if (0 : Int) = 1 then (1 : Int) else -1) * 2 ^ w = d at *
      omega
    · have := hT.2 (by omega)
      have k := far_pos (v := v) (M := sm * 2 ^ c) (T := -Y) (dl := (if (1 : Int) = 1 then 1 else -1) * 2 ^ w) hM (by omega) (by simp; omega) (by simp; omega) hV.neg
      generalize (sm * 2 ^ c) * 2 ^ (v + 1) = S at *
      generalize (if (1 : Int) = 1 then (1 : Int) else -1) * 2 ^ w = d at *
      omega
end Mine

end

section
open PySem PySem.Calls
set_option maxRecDepth 100000
set_option linter.unusedVariables false
set_option linter.unusedSimpArgs false
namespace Mine
local macro_rules
  | `(tactic| ktr_unf) => `(tactic| simp only [wpT, wpE, wpEs, wpTr, truthD, wpBin, optP, cmpD, itemD, eq4, setAll, List.map_cons, List.map_nil, List.reverse_cons, List.reverse_nil, List.nil_append, List.cons_append, List.getElem?_cons_zero, List.getElem?_cons_succ, List.set_cons_zero, List.set_cons_succ, Option.some.injEq, PyData.int.injEq, PyData.bool.injEq, PyData.tuple.injEq, PyData.str.injEq, decide_eq_true_eq, Bool.not_eq_true', decide_eq_false_iff_not, num])

theorem nz {W : Wd} {P : Params} (H : Here W P) {E Z sg man exp : Int} {p : Nat} {m : Mode} (hsg : sg = 0 ∨ sg = 1) (h0 : 0 ≤ man) (hp : 1 ≤ p) (hsz : Builtin.Int.intBits man ≤ 1000000) (hE : 1 ≤ exp + E) (hv : sv sg man * 2 ^ (exp + E).toNat = Z) :
    ∃ d, Ok W 3 ("normalize" : Str) [.int sg, .int man, .int exp, .int (Builtin.Int.intBits man), .int p, .str (mch m)] d ∧ ∃ r, Is E r d ∧ Rnd p (ex Z) r m := by
  obtain ⟨d, h1, h2⟩ := normalize_ok H exp m hsg h0 hp hsz
  obtain ⟨r, h3, h4⟩ := h2 E hE
  rw [hv] at h4
  exact ⟨d, h1, r, h3, h4⟩
theorem wpE_or {ok : Str → List D → D → Prop} {ρ : Rho} {l r : ME} {x : Int} {P : D → Prop} (h : wpE ok ρ l (· = .int x)) (hx : x ≠ 0) (hP : P (.int x)) : wpE ok ρ (.or l r) P := by
  unfold wpE
  refine wpE_mono l (fun a ha => ?_) h
  subst ha
  exact ⟨fun _ => hP, fun z => by simp at z; omega⟩
theorem es_nil {ok : Str → List D → D → Prop} {ρ : Rho} {P : List D → Prop} (h : P []) : wpEs ok ρ [] P := by unfold wpEs; exact h
theorem sv_abs1 {M : Int} (h : M < 0) : sv 1 (-M) = M := by unfold sv; simp
theorem sv_0 {M : Int} : sv 0 M = M := by unfold sv; simp
theorem sv_1 {M : Int} : sv 1 M = -M := by unfold sv; simp
theorem intBits_neg (x : Int) : Builtin.Int.intBits (-x) = Builtin.Int.intBits x :=
  Nat.le_antisymm (PySem.intBits_le_iff.mpr (by rw [Int.natAbs_neg]; exact PySem.intBits_le_iff.mp (Nat.le_refl _))) (PySem.intBits_le_iff.mpr (by rw [← Int.natAbs_neg]; exact PySem.intBits_le_iff.mp (Nat.le_refl _)))
theorem bits_add {a b : Int} {k : Nat} (ha : Builtin.Int.intBits a ≤ k) (hb : Builtin.Int.intBits b ≤ k) : Builtin.Int.intBits (a + b) ≤ k + 1 := by
  have h1 := PySem.intBits_le_iff.mp ha
  have h2 := PySem.intBits_le_iff.mp hb
  refine PySem.intBits_le_iff.mpr ?_
  rw [Nat.pow_succ]
  omega
theorem bits_mul_le {x : Int} {k : Nat} : Builtin.Int.intBits (x * 2 ^ k) ≤ Builtin.Int.intBits x + k := by
  have h1 := PySem.intBits_le_iff.mp (Nat.le_refl (Builtin.Int.intBits x))
  refine PySem.intBits_le_iff.mpr ?_
  rw [Int.natAbs_mul, Nat.pow_add, show ((2 : Int) ^ k).natAbs = 2 ^ k by rw [Int.natAbs_pow]; rfl]
  exact Nat.mul_lt_mul_of_pos_right h1 (Nat.two_pow_pos k)

section
variable {W : Wd} {P : Params} (H : Here W P) {E Z : Int} {p : Nat} {m : Mode} (hp : 1 ≤ p)
abbrev Good (E Z : Int) (p : Nat) (m : Mode) (d : D) : Prop := ∃ r, Is E r d ∧ Rnd p (ex Z) r m

include H hp in
/-- the last two statements of every branch -/
theorem add_fin {o0 o1 o4 o5 o7 o9 o10 o12 o13 o14 o16 : Option D} {e8 e11 e sg man : Int} {ei : Nat} {N : Rho → Prop} (he : (ei = 8 ∧ e = e8) ∨ (ei = 11 ∧ e = e11)) (hsg : sg = 0 ∨ sg = 1) (h0 : 0 ≤ man) (hsz : Builtin.Int.intBits man ≤ 1000000) (hE : 1 ≤ e + E) (hv : sv sg man * 2 ^ (e + E).toNat = Z) :
    wpSs (Ok W 3) [o0, o1, some (.int p), some (.str (mch m)), o4, o5, some (.int sg), o7, some (.int e8), o9, o10, some (.int e11), o12, o13, o14, some (.int man), o16] [.asg 14 (.bl (.loc 15)), .ret (.call ("normalize" : Str) [.loc 6, .loc 15, .loc ei, .loc 14, .or (.loc 2) (.loc 14), .loc 3])] N (Good E Z p m) := by
  refine st_asg (x := .int (Builtin.Int.intBits man)) (by ktr_unf) rfl (st_ret ?_)
  refine e_callx (ds := [.int sg, .int man, .int e, .int (Builtin.Int.intBits man), .int p, .str (mch m)]) ?_ (nz H hsg h0 hp hsz hE hv)
  rcases he with ⟨rfl, rfl⟩ | ⟨rfl, rfl⟩
  · refine es_cons (x := .int sg) (by ktr_unf) (es_cons (x := .int man) (by ktr_unf) (es_cons (x := .int e) (by ktr_unf) (es_cons (x := .int (Builtin.Int.intBits man)) (by ktr_unf) (es_cons (x := .int p) (wpE_or (x := p) (by ktr_unf) (by omega) rfl) (es_cons (x := .str (mch m)) (by ktr_unf) (es_nil rfl))))))
  · refine es_cons (x := .int sg) (by ktr_unf) (es_cons (x := .int man) (by ktr_unf) (es_cons (x := .int e) (by ktr_unf) (es_cons (x := .int (Builtin.Int.intBits man)) (by ktr_unf) (es_cons (x := .int p) (wpE_or (x := p) (by ktr_unf) (by omega) rfl) (es_cons (x := .str (mch m)) (by ktr_unf) (es_nil rfl))))))
include H hp in
/-- the sign of a difference, and the end -/
theorem add_abs {o0 o1 o4 o5 o6 o7 o9 o10 o12 o13 o14 o16 : Option D} {e8 e11 e M : Int} {ei : Nat} {N : Rho → Prop} (he : (ei = 8 ∧ e = e8) ∨ (ei = 11 ∧ e = e11)) (hsz : Builtin.Int.intBits M ≤ 1000000) (hE : 1 ≤ e + E) (hv : M * 2 ^ (e + E).toNat = Z) :
    wpSs (Ok W 3) [o0, o1, some (.int p), some (.str (mch m)), o4, o5, o6, o7, some (.int e8), o9, o10, some (.int e11), o12, o13, o14, some (.int M), o16] [.ite (.cmp .GtE (.loc 15) (.int (0))) [.asg 6 (.int (0))] [.asg 15 (.neg (.loc 15)), .asg 6 (.int (1))]]
      (fun ρ' => wpSs (Ok W 3) ρ' [.asg 14 (.bl (.loc 15)), .ret (.call ("normalize" : Str) [.loc 6, .loc 15, .loc ei, .loc 14, .or (.loc 2) (.loc 14), .loc 3])] N (Good E Z p m)) (Good E Z p m) := by
  refine st_ite (C := 0 ≤ M) (by ktr_unf) (fun z => ?_) (fun z => ?_)
  · refine st_asg (x := .int 0) (by ktr_unf) rfl (st_nil (st_nil ?_))
    exact add_fin H hp he (.inl rfl) z hsz hE (by rw [sv_0]; exact hv)
  · refine st_asg (x := .int (-M)) (by ktr_unf) rfl (st_asg (x := .int 1) (by ktr_unf) rfl (st_nil (st_nil ?_)))
    exact add_fin H hp he (.inr rfl) (by omega) (by rw [intBits_neg]; exact hsz) hE (by rw [sv_abs1 (by omega)]; exact hv)
end
theorem sv_same (sg a b : Int) : sv sg a + sv sg b = sv sg (a + b) := by unfold sv; split <;> omega
/-- two numbers at the lesser exponent -/
theorem add_low {sg tg sm tm se te E : Int} {o : Nat} (h : se - te = o) (hE : 1 ≤ te + E) : sv sg sm * 2 ^ (se + E).toNat + sv tg tm * 2 ^ (te + E).toNat = (sv sg (sm * 2 ^ o) + sv tg tm) * 2 ^ (te + E).toNat := by
  rw [Int.add_mul, ← sv_mul, Int.mul_assoc, ← pow_add2]
  congr 3; omega
end Mine

end

section
open PySem PySem.Calls
set_option maxRecDepth 100000
set_option linter.unusedVariables false
set_option linter.unusedSimpArgs false
namespace Mine
local macro_rules
  | `(tactic| ktr_unf) => `(tactic| simp only [wpT, wpE, wpEs, wpTr, truthD, wpBin, optP, cmpD, itemD, eq4, setAll, List.map_cons, List.map_nil, List.reverse_cons, List.reverse_nil, List.nil_append, List.cons_append, List.getElem?_cons_zero, List.getElem?_cons_succ, List.set_cons_zero, List.set_cons_succ, Option.some.injEq, PyData.int.injEq, PyData.bool.injEq, PyData.tuple.injEq, PyData.str.injEq, decide_eq_true_eq, Bool.not_eq_true', decide_eq_false_iff_not, num])
local macro_rules
  | `(tactic| ktr_rel) => `(tactic| (simp only [setAll, List.reverse_cons, List.reverse_nil, List.nil_append, List.cons_append, List.set_cons_zero, List.set_cons_succ]; rfl))


theorem bits_sub {a b : Int} {k : Nat} (ha : Builtin.Int.intBits a ≤ k) (hb : Builtin.Int.intBits b ≤ k) : Builtin.Int.intBits (a - b) ≤ k + 1 := by
  rw [Int.sub_eq_add_neg]
  exact bits_add ha (by rw [intBits_neg]; exact hb)
section
variable {W : Wd} {P : Params} (H : Here W P) {E X Y : Int} {s t : D} {sg sm se tg tm te : Int} {p : Nat} {m : Mode}

/-- a far operand stands as one unit of the last place -/
theorem far_fin (H : Here W P) (hp : 1 ≤ p) (hp2 : p ≤ 1000) (hsg : sg = 0 ∨ sg = 1) (htg : tg = 0 ∨ tg = 1) (hs : 0 < sm) (ht : 0 < tm) (hE : p + 10 ≤ se + E) (hE2 : 1 ≤ te + E) (hb : Builtin.Int.intBits sm ≤ p + 1) (hfar : (p : Int) + 4 < Builtin.Int.intBits sm + se - Builtin.Int.intBits tm - te)
    {sm' : Int} (hsm' : sm' = sm * 2 ^ (p + 4) + (if tg = sg then 1 else -1)) :
    ∃ d, Ok W 3 ("normalize" : Str) [.int sg, .int sm', .int (se - (p + 4)), .int (Builtin.Int.intBits sm'), .int p, .str (mch m)] d ∧ Good E (sv sg sm * 2 ^ (se + E).toNat + sv tg tm * 2 ^ (te + E).toNat) p m d := by
  have h1 := pow_pos2 (p + 4)
  have h2 : 1 * 2 ^ (p + 4) ≤ sm * 2 ^ (p + 4) := Int.mul_le_mul_of_nonneg_right (by omega) (by omega)
  have h3 : (sm * 2 ^ (p + 4) + (if tg = sg then 1 else -1)) ≥ 0 := by split <;> omega
  obtain ⟨d, k1, r, k2, k3⟩ := nz H (E := E) (Z := sv sg sm' * 2 ^ (se - (p + 4) + E).toNat) (m := m) (exp := se - (p + 4)) hsg (show 0 ≤ sm' by omega) hp (by
    rw [hsm']
    have b1 := bits_mul_le (x := sm) (k := p + 4)
    have := bits_add (a := sm * 2 ^ (p + 4)) (b := if tg = sg then 1 else -1) (k := 3000) (by omega) (by split <;> decide)
    omega) (by omega) rfl
  refine ⟨d, k1, r, k2, Rnd.stands (fun V hV => ?_) k3⟩
  rw [hsm']
  exact far_s hsg htg hs ht hE hE2 hb hfar hV

set_option maxHeartbeats 1000000 in
theorem mpf_add_wp (H : Here W P) (u : Int) (tg' : Int) (ks : Pt E X s sg sm se) (kt : Pt E Y t tg tm te) (hE : 1 ≤ E) (hp : 1 ≤ p) (hp2 : p ≤ 1000) (hb1 : Builtin.Int.intBits sm ≤ 1000) (hb2 : Builtin.Int.intBits tm ≤ 1000) (ho : se - te ≤ 100000) (ho2 : te - se ≤ 100000)
    (hu : (u = 0 ∧ tg' = tg) ∨ (u = 1 ∧ tg' = 1 - tg))
    (hfs : 100 < se - te → (p : Int) + 4 < Builtin.Int.intBits sm + se - Builtin.Int.intBits tm - te → Builtin.Int.intBits sm ≤ p + 1 ∧ p + 10 ≤ se + E)
    (hft : 100 < te - se → (p : Int) + 4 < Builtin.Int.intBits tm + te - Builtin.Int.intBits sm - se → Builtin.Int.intBits tm ≤ p + 1 ∧ p + 10 ≤ te + E) :
    wpSs (Ok W 3) [some s, some t, some (.int p), some (.str (mch m)), some (.int u), none, none, none, none, none, none, none, none, none, none, none, none] b_mpf_add (fun _ => False) (Good E (X + sv tg' tm * 2 ^ (te + E).toNat) p m) := by
  have htg' : tg' = 0 ∨ tg' = 1 := by have := kt.hsg; omega
  have hbs := bits_mul_le (x := sm) (k := (se - te).toNat)
  have hbt := bits_mul_le (x := tm) (k := (te - se).toNat)
  have kE := ks.hexp
  have tE := kt.hexp
  have ks0 := ks.hman
  have kt0 := kt.hman
  have ksg := ks.hsg
  have esg : ∀ {z : sg = tg'}, sv tg' tm = sv sg tm := fun {z} => by rw [z]
  rw [ks.hd, kt.hd]
  unfold b_mpf_add
  refine st_asgT (ds := [.int sg, .int sm, .int se, .int (Builtin.Int.intBits sm)]) (by ktr_unf) (by ktr_rel) ?_
  refine st_asgT (ds := [.int tg, .int tm, .int te, .int (Builtin.Int.intBits tm)]) (by ktr_unf) (by ktr_rel) ?_
  refine st_aug (y := .int tg) (z := .int u) (x := .int tg') rfl (by ktr_unf) ?_ (by ktr_rel) ?_
  · show PyData.int (Builtin.bitXor tg u) = .int tg'
    rcases kt.hsg with rfl | rfl <;> rcases hu with ⟨rfl, rfl⟩ | ⟨rfl, rfl⟩ <;> rfl
  refine st_ite (C := sm ≠ 0 ∧ tm ≠ 0) (t_and (t_int (by ktr_unf)) fun _ => t_int (by ktr_unf)) (fun zz => ?_) (fun zz => st_nil ?_)
  · rw [ks.hX]
    refine st_asg (x := .int (se - te)) (by ktr_unf) (by ktr_rel) ?_
    refine st_ite (C := se - te ≠ 0) (t_int (by ktr_unf)) (fun z1 => ?_) (fun z1 => st_nil ?_)
    · refine st_ite (C := 0 < se - te) (by ktr_unf) (fun z2 => ?_) (fun z2 => ?_)
      · obtain ⟨o, ho'⟩ : ∃ o : Nat, se - te = o := ⟨(se - te).toNat, by omega⟩
        have rest : ∀ (o16 : Option D) (N : Rho → Prop), wpSs (Ok W 3) [some (num sg sm se (Builtin.Int.intBits sm)), some (num tg tm te (Builtin.Int.intBits tm)), some (.int p), some (.str (mch m)), some (.int u), some (.int tg'), some (.int sg), some (.int sm), some (.int se), some (.int (Builtin.Int.intBits sm)), some (.int tm), some (.int te), some (.int (Builtin.Int.intBits tm)), some (.int (se - te)), none, none, o16]
            [.ite (.cmp .Eq (.loc 6) (.loc 5)) [.asg 15 (.bin .Add (.loc 10) (.bin .LShift (.loc 7) (.loc 13)))] [.ite (.loc 6) [.asg 15 (.bin .Sub (.loc 10) (.bin .LShift (.loc 7) (.loc 13)))] [.asg 15 (.bin .Sub (.bin .LShift (.loc 7) (.loc 13)) (.loc 10))], .ite (.cmp .GtE (.loc 15) (.int (0))) [.asg 6 (.int (0))] [.asg 15 (.neg (.loc 15)), .asg 6 (.int (1))]], .asg 14 (.bl (.loc 15)), .ret (.call ("normalize" : Str) [(.loc 6), (.loc 15), (.loc 11), (.loc 14), (.or (.loc 2) (.loc 14)), (.loc 3)])] N (Good E (sv sg sm * 2 ^ (se + E).toNat + sv tg' tm * 2 ^ (te + E).toNat) p m) := by
          intro o16 N
          have hlow := add_low (sg := sg) (tg := tg') (sm := sm) (tm := tm) ho' tE
          have h8 : 0 ≤ sm * 2 ^ (se - te).toNat := Int.mul_nonneg ks0 (by have := pow_pos2 (se - te).toNat; omega)
          have ho3 : (se - te).toNat = o := by omega
          rw [hlow, ← ho3]
          refine st_ite (C := sg = tg') (by ktr_unf) (fun z3 => ?_) (fun z3 => ?_)
          · refine st_asg (x := .int (tm + sm * 2 ^ (se - te).toNat)) (by ktr_unf; exact ⟨⟨by omega, by omega⟩, trivial⟩) (by ktr_rel) (st_nil ?_)
            refine add_fin H hp (.inr ⟨rfl, rfl⟩) ksg (by omega) ?_ tE ?_
            · have := bits_add (a := tm) (b := sm * 2 ^ (se - te).toNat) (k := 200000) (by omega) (by omega); omega
            · rw [← z3, sv_same, Int.add_comm tm]
          · refine st_ite (C := sg ≠ 0) (t_int (by ktr_unf)) (fun z4 => ?_) (fun z4 => ?_)
            · refine st_asg (x := .int (tm - sm * 2 ^ (se - te).toNat)) (by ktr_unf; exact ⟨⟨by omega, by omega⟩, trivial⟩) (by ktr_rel) (st_nil ?_)
              refine add_abs H hp (.inr ⟨rfl, rfl⟩) ?_ tE ?_
              · have := bits_sub (a := tm) (b := sm * 2 ^ (se - te).toNat) (k := 200000) (by omega) (by omega); omega
              · rw [show sg = 1 by omega, show tg' = 0 by omega, sv_0, sv_1]; congr 1; omega
            · refine st_asg (x := .int (sm * 2 ^ (se - te).toNat - tm)) (by ktr_unf; exact ⟨⟨by omega, by omega⟩, trivial⟩) (by ktr_rel) (st_nil ?_)
              refine add_abs H hp (.inr ⟨rfl, rfl⟩) ?_ tE ?_
              · have := bits_sub (a := sm * 2 ^ (se - te).toNat) (b := tm) (k := 200000) (by omega) (by omega); omega
              · rw [show sg = 0 by omega, show tg' = 1 by omega, sv_0, sv_1]; congr 1
        refine st_ite (C := 100 < se - te ∧ (p : Int) ≠ 0) (t_and (by ktr_unf) fun _ => t_int (by ktr_unf)) (fun z3 => ?_) (fun z3 => st_nil (rest _ _))
        refine st_asg (x := .int (Builtin.Int.intBits sm + se - Builtin.Int.intBits tm - te)) (by ktr_unf) (by ktr_rel) ?_
        refine st_ite (C := (p : Int) + 4 < Builtin.Int.intBits sm + se - Builtin.Int.intBits tm - te) (by ktr_unf) (fun z4 => ?_) (fun z4 => st_nil (st_nil (rest _ _)))
        obtain ⟨q1, q2⟩ := hfs z3.1 z4
        refine st_asg (x := .int ((p + 4 : Nat) : Int)) (by ktr_unf; rfl) (by ktr_rel) ?_
        obtain ⟨sz, hsz5⟩ : ∃ sz : Int, sz = sm * 2 ^ (p + 4) := ⟨_, rfl⟩
        refine st_aug (y := .int sm) (z := .int ((p + 4 : Nat) : Int)) (x := .int sz) rfl (by ktr_unf) ⟨⟨by omega, by omega⟩, by rw [Int.toNat_natCast, hsz5]⟩ (by ktr_rel) ?_
        have fin : ∀ (sm' : Int) (o16 : Option D) (N : Rho → Prop), sm' = sm * 2 ^ (p + 4) + (if tg' = sg then 1 else -1) → wpSs (Ok W 3) [some (num sg sm se (Builtin.Int.intBits sm)), some (num tg tm te (Builtin.Int.intBits tm)), some (.int p), some (.str (mch m)), some (.int u), some (.int tg'), some (.int sg), some (.int sm'), some (.int se), some (.int (Builtin.Int.intBits sm)), some (.int tm), some (.int te), some (.int (Builtin.Int.intBits tm)), some (.int ((p + 4 : Nat) : Int)), none, none, o16]
            [.ret (.call ("normalize" : Str) [(.loc 6), (.loc 7), (.bin .Sub (.loc 8) (.loc 13)), (.bl (.loc 7)), (.loc 2), (.loc 3)])] N (Good E (sv sg sm * 2 ^ (se + E).toNat + sv tg' tm * 2 ^ (te + E).toNat) p m) := by
          intro sm' o16 N e
          refine st_ret (e_callx (ds := [.int sg, .int sm', .int (se - (p + 4)), .int (Builtin.Int.intBits sm'), .int p, .str (mch m)]) (by ktr_unf; simp) ?_)
          exact far_fin H hp hp2 ksg htg' (by omega) (by omega) (by omega) tE q1 z4 e
        refine st_ite (C := tg' = sg) (by ktr_unf) (fun z5 => ?_) (fun z5 => ?_)
        · have e5 : sz + 1 = sm * 2 ^ (p + 4) + (if tg' = sg then 1 else -1) := by rw [if_pos z5, hsz5]
          refine st_aug (y := .int sz) (z := .int 1) (x := .int (sz + 1)) rfl (by ktr_unf) rfl (by ktr_rel) (st_nil ?_)
          exact fin _ _ _ e5
        · have e5 : sz - 1 = sm * 2 ^ (p + 4) + (if tg' = sg then 1 else -1) := by rw [if_neg z5, hsz5]; omega
          refine st_aug (y := .int sz) (z := .int 1) (x := .int (sz - 1)) rfl (by ktr_unf) rfl (by ktr_rel) (st_nil ?_)
          exact fin _ _ _ e5
      · refine st_ite (C := se - te < 0) (by ktr_unf) (fun z2 => ?_) (fun z2 => by omega)
        obtain ⟨o, ho'⟩ : ∃ o : Nat, te - se = o := ⟨(te - se).toNat, by omega⟩
        have rest : ∀ (o16 : Option D) (N : Rho → Prop), wpSs (Ok W 3) [some (num sg sm se (Builtin.Int.intBits sm)), some (num tg tm te (Builtin.Int.intBits tm)), some (.int p), some (.str (mch m)), some (.int u), some (.int tg'), some (.int sg), some (.int sm), some (.int se), some (.int (Builtin.Int.intBits sm)), some (.int tm), some (.int te), some (.int (Builtin.Int.intBits tm)), some (.int (se - te)), none, none, o16]
            [.ite (.cmp .Eq (.loc 6) (.loc 5)) [.asg 15 (.bin .Add (.loc 7) (.bin .LShift (.loc 10) (.neg (.loc 13))))] [.ite (.loc 5) [.asg 15 (.bin .Sub (.loc 7) (.bin .LShift (.loc 10) (.neg (.loc 13))))] [.asg 15 (.bin .Sub (.bin .LShift (.loc 10) (.neg (.loc 13))) (.loc 7))], .ite (.cmp .GtE (.loc 15) (.int (0))) [.asg 6 (.int (0))] [.asg 15 (.neg (.loc 15)), .asg 6 (.int (1))]], .asg 14 (.bl (.loc 15)), .ret (.call ("normalize" : Str) [(.loc 6), (.loc 15), (.loc 8), (.loc 14), (.or (.loc 2) (.loc 14)), (.loc 3)])] N (Good E (sv sg sm * 2 ^ (se + E).toNat + sv tg' tm * 2 ^ (te + E).toNat) p m) := by
          intro o16 N
          have hlow := add_low (sg := tg') (tg := sg) (sm := tm) (tm := sm) ho' kE
          have ho3 : (te - se).toNat = o := by omega
          have ho4 : (-(se - te)).toNat = o := by omega
          rw [ho3] at hbt
          have h8 : 0 ≤ tm * 2 ^ o := Int.mul_nonneg kt0 (by have := pow_pos2 o; omega)
          rw [Int.add_comm, hlow]
          refine st_ite (C := sg = tg') (by ktr_unf) (fun z3 => ?_) (fun z3 => ?_)
          · refine st_asg (x := .int (sm + tm * 2 ^ o)) (by ktr_unf; exact ⟨⟨by omega, by omega⟩, by rw [ho4]⟩) (by ktr_rel) (st_nil ?_)
            refine add_fin H hp (.inl ⟨rfl, rfl⟩) ksg (by omega) ?_ kE ?_
            · have := bits_add (a := sm) (b := tm * 2 ^ o) (k := 200000) (by omega) (by omega); omega
            · rw [← z3, sv_same, Int.add_comm sm]
          · refine st_ite (C := tg' ≠ 0) (t_int (by ktr_unf)) (fun z4 => ?_) (fun z4 => ?_)
            · refine st_asg (x := .int (sm - tm * 2 ^ o)) (by ktr_unf; exact ⟨⟨by omega, by omega⟩, by rw [ho4]⟩) (by ktr_rel) (st_nil ?_)
              refine add_abs H hp (.inl ⟨rfl, rfl⟩) ?_ kE ?_
              · have := bits_sub (a := sm) (b := tm * 2 ^ o) (k := 200000) (by omega) (by omega); omega
              · rw [show sg = 0 by omega, show tg' = 1 by omega, sv_0, sv_1]; congr 1; omega
            · refine st_asg (x := .int (tm * 2 ^ o - sm)) (by ktr_unf; exact ⟨⟨by omega, by omega⟩, by rw [ho4]⟩) (by ktr_rel) (st_nil ?_)
              refine add_abs H hp (.inl ⟨rfl, rfl⟩) ?_ kE ?_
              · have := bits_sub (a := tm * 2 ^ o) (b := sm) (k := 200000) (by omega) (by omega); omega
              · rw [show sg = 1 by omega, show tg' = 0 by omega, sv_0, sv_1]; congr 1
        refine st_ite (C := se - te < -100 ∧ (p : Int) ≠ 0) (t_and (by ktr_unf) fun _ => t_int (by ktr_unf)) (fun z3 => ?_) (fun z3 => st_nil (rest _ _))
        refine st_asg (x := .int (Builtin.Int.intBits tm + te - Builtin.Int.intBits sm - se)) (by ktr_unf) (by ktr_rel) ?_
        refine st_ite (C := (p : Int) + 4 < Builtin.Int.intBits tm + te - Builtin.Int.intBits sm - se) (by ktr_unf) (fun z4 => ?_) (fun z4 => st_nil (st_nil (rest _ _)))
        obtain ⟨q1, q2⟩ := hft (by omega) z4
        refine st_asg (x := .int ((p + 4 : Nat) : Int)) (by ktr_unf; rfl) (by ktr_rel) ?_
        obtain ⟨sz, hsz5⟩ : ∃ sz : Int, sz = tm * 2 ^ (p + 4) := ⟨_, rfl⟩
        refine st_aug (y := .int tm) (z := .int ((p + 4 : Nat) : Int)) (x := .int sz) rfl (by ktr_unf) ⟨⟨by omega, by omega⟩, by rw [Int.toNat_natCast, hsz5]⟩ (by ktr_rel) ?_
        have fin : ∀ (tm' : Int) (o16 : Option D) (N : Rho → Prop), tm' = tm * 2 ^ (p + 4) + (if sg = tg' then 1 else -1) → wpSs (Ok W 3) [some (num sg sm se (Builtin.Int.intBits sm)), some (num tg tm te (Builtin.Int.intBits tm)), some (.int p), some (.str (mch m)), some (.int u), some (.int tg'), some (.int sg), some (.int sm), some (.int se), some (.int (Builtin.Int.intBits sm)), some (.int tm'), some (.int te), some (.int (Builtin.Int.intBits tm)), some (.int ((p + 4 : Nat) : Int)), none, none, o16]
            [.ret (.call ("normalize" : Str) [(.loc 5), (.loc 10), (.bin .Sub (.loc 11) (.loc 13)), (.bl (.loc 10)), (.loc 2), (.loc 3)])] N (Good E (sv sg sm * 2 ^ (se + E).toNat + sv tg' tm * 2 ^ (te + E).toNat) p m) := by
          intro tm' o16 N e
          refine st_ret (e_callx (ds := [.int tg', .int tm', .int (te - (p + 4)), .int (Builtin.Int.intBits tm'), .int p, .str (mch m)]) (by ktr_unf; simp) ?_)
          rw [Int.add_comm (sv sg sm * _)]
          exact far_fin H hp hp2 htg' ksg (by omega) (by omega) (by omega) kE q1 z4 e
        refine st_ite (C := sg = tg') (by ktr_unf) (fun z5 => ?_) (fun z5 => ?_)
        · have e5 : sz + 1 = tm * 2 ^ (p + 4) + (if sg = tg' then 1 else -1) := by rw [if_pos z5, hsz5]
          refine st_aug (y := .int sz) (z := .int 1) (x := .int (sz + 1)) rfl (by ktr_unf) rfl (by ktr_rel) (st_nil ?_)
          exact fin _ _ _ e5
        · have e5 : sz - 1 = tm * 2 ^ (p + 4) + (if sg = tg' then 1 else -1) := by rw [if_neg z5, hsz5]; omega
          refine st_aug (y := .int sz) (z := .int 1) (x := .int (sz - 1)) rfl (by ktr_unf) rfl (by ktr_rel) (st_nil ?_)
          exact fin _ _ _ e5
    · have hee : se = te := by omega
      have hlow : sv sg sm * 2 ^ (se + E).toNat + sv tg' tm * 2 ^ (te + E).toNat = (sv sg sm + sv tg' tm) * 2 ^ (te + E).toNat := by rw [Int.add_mul, hee]
      rw [hlow]
      refine st_ite (C := sg = tg') (by ktr_unf) (fun z3 => ?_) (fun z3 => ?_)
      · refine st_asg (x := .int (tm + sm)) (by ktr_unf) (by ktr_rel) (st_nil ?_)
        refine add_fin H hp (.inr ⟨rfl, rfl⟩) ksg (by omega) ?_ tE ?_
        · have := bits_add (a := tm) (b := sm) (k := 200000) (by omega) (by omega); omega
        · rw [← z3, sv_same, Int.add_comm tm]
      · refine st_ite (C := sg ≠ 0) (t_int (by ktr_unf)) (fun z4 => ?_) (fun z4 => ?_)
        · refine st_asg (x := .int (tm - sm)) (by ktr_unf) (by ktr_rel) (st_nil ?_)
          refine add_abs H hp (.inr ⟨rfl, rfl⟩) ?_ tE ?_
          · have := bits_sub (a := tm) (b := sm) (k := 200000) (by omega) (by omega); omega
          · rw [show sg = 1 by omega, show tg' = 0 by omega, sv_0, sv_1]; congr 1; omega
        · refine st_asg (x := .int (sm - tm)) (by ktr_unf) (by ktr_rel) (st_nil ?_)
          refine add_abs H hp (.inr ⟨rfl, rfl⟩) ?_ tE ?_
          · have := bits_sub (a := sm) (b := tm) (k := 200000) (by omega) (by omega); omega
          · rw [show sg = 0 by omega, show tg' = 1 by omega, sv_0, sv_1]; congr 1
  · -- one operand is nought
    have tail : ∀ t' : D, (sm = 0 → tm = 0 → t' = num 0 0 0 0) → wpSs (Ok W 3) [some (num sg sm se (Builtin.Int.intBits sm)), some t', some (.int p), some (.str (mch m)), some (.int u), some (.int tg'), some (.int sg), some (.int sm), some (.int se), some (.int (Builtin.Int.intBits sm)), some (.int tm), some (.int te), some (.int (Builtin.Int.intBits tm)), none, none, none, none]
        (b_mpf_add.drop 5) (fun _ => False) (Good E (X + sv tg' tm * 2 ^ (te + E).toNat) p m) := by
      intro t' ht'
      show wpSs _ _ [MS.ite _ _ _, MS.ite _ _ _, MS.ite _ _ _, MS.ret _] _ _
      refine st_ite (C := sm = 0) (t_iff (t_not (t_int (x := sm) (by ktr_unf))) (by simp)) (fun z => ?_) (fun z => st_nil ?_)
      · obtain ⟨z1, z2⟩ := ks.hz z
        have hX0 : X = 0 := by rw [ks.hX, z]; unfold sv; simp
        refine st_ite (C := False) (t_iff (t_int (x := se) (by ktr_unf)) (by simp [z2])) (fun z => z.elim) (fun _ => st_nil ?_)
        refine st_ite (C := tm ≠ 0) (t_int (by ktr_unf)) (fun z3 => ?_) (fun z3 => st_nil ?_)
        · refine st_ret (e_callx (ds := [.int tg', .int tm, .int te, .int (Builtin.Int.intBits tm), .int p, .str (mch m)]) ?_ (nz H htg' kt0 hp (by omega) tE (by rw [hX0, Int.zero_add])))
          refine es_cons (x := .int tg') (by ktr_unf) (es_cons (x := .int tm) (by ktr_unf) (es_cons (x := .int te) (by ktr_unf) (es_cons (x := .int (Builtin.Int.intBits tm)) (by ktr_unf) (es_cons (x := .int p) (wpE_or (x := p) (by ktr_unf) (by omega) rfl) (es_cons (x := .str (mch m)) (by ktr_unf) (es_nil rfl))))))
        · refine st_ret ?_
          have z4 : tm = 0 := by omega
          rw [ht' z z4]
          ktr_unf
          refine ⟨0, .inl ⟨rfl, rfl⟩, ?_⟩
          have : X + sv tg' tm * 2 ^ (te + E).toNat = 0 := by rw [hX0, z4]; unfold sv; simp
          rw [this]
          exact Rnd.ex (Fits.zero p) m
      · have z3 : tm = 0 := by omega
        obtain ⟨z1, z2⟩ := kt.hz z3
        refine st_ite (C := False) (t_iff (t_int (x := te) (by ktr_unf)) (by simp [z2])) (fun z => z.elim) (fun _ => st_nil ?_)
        refine st_ite (C := True) (t_iff (t_int (x := sm) (by ktr_unf)) (by simp [z])) (fun _ => ?_) (fun z => absurd trivial z)
        refine st_ret (e_callx (ds := [.int sg, .int sm, .int se, .int (Builtin.Int.intBits sm), .int p, .str (mch m)]) ?_ (nz H ksg ks0 hp (by omega) kE ?_))
        · refine es_cons (x := .int sg) (by ktr_unf) (es_cons (x := .int sm) (by ktr_unf) (es_cons (x := .int se) (by ktr_unf) (es_cons (x := .int (Builtin.Int.intBits sm)) (by ktr_unf) (es_cons (x := .int p) (wpE_or (x := p) (by ktr_unf) (by omega) rfl) (es_cons (x := .str (mch m)) (by ktr_unf) (es_nil rfl))))))
        · rw [ks.hX, z3]; unfold sv; simp
    have hneg := mpf_neg_ok H (sg := tg) (man := tm) (exp := te) (bc := Builtin.Int.intBits tm) (fun z => (kt.hz z).2)
    refine st_ite (C := u ≠ 0) (t_int (by ktr_unf)) (fun z => ?_) (fun z => st_nil (tail _ ?_))
    · refine st_asg (e_call (ds := [num tg tm te (Builtin.Int.intBits tm)]) (by ktr_unf) (hneg.more (by omega)) rfl) (by ktr_rel) (st_nil (tail _ ?_))
      intro z1 z2
      rw [if_pos z2]
      obtain ⟨e1, e2⟩ := kt.hz z2
      rw [e1, e2, z2]; rfl
    · intro z1 z2
      obtain ⟨e1, e2⟩ := kt.hz z2
      rw [e1, e2, z2]; rfl
end
end Mine

end

section
open PySem PySem.Calls
set_option maxRecDepth 100000
set_option linter.unusedVariables false
set_option linter.unusedSimpArgs false
namespace Mine
local macro_rules
  | `(tactic| ktr_unf) => `(tactic| simp only [wpT, wpE, wpEs, wpTr, truthD, wpBin, optP, cmpD, itemD, eq4, setAll, List.map_cons, List.map_nil, List.reverse_cons, List.reverse_nil, List.nil_append, List.cons_append, List.getElem?_cons_zero, List.getElem?_cons_succ, List.set_cons_zero, List.set_cons_succ, Option.some.injEq, PyData.int.injEq, PyData.bool.injEq, PyData.tuple.injEq, PyData.str.injEq, decide_eq_true_eq, Bool.not_eq_true', decide_eq_false_iff_not, num])
local macro_rules
  | `(tactic| ktr_rel) => `(tactic| (simp only [setAll, List.reverse_cons, List.reverse_nil, List.nil_append, List.cons_append, List.set_cons_zero, List.set_cons_succ]; rfl))

section
variable {W : Wd} {P : Params} (H : Here W P) {E X Y : Int} {s t : D} {sg sm se tg tm te : Int} {p : Nat} {m : Mode}

theorem mpf_add_ok5 (H : Here W P) (u : Int) (tg' : Int) (ks : Pt E X s sg sm se) (kt : Pt E Y t tg tm te) (hE : 1 ≤ E) (hp : 1 ≤ p) (hp2 : p ≤ 1000) (hb1 : Builtin.Int.intBits sm ≤ 1000) (hb2 : Builtin.Int.intBits tm ≤ 1000) (ho : se - te ≤ 100000) (ho2 : te - se ≤ 100000)
    (hu : (u = 0 ∧ tg' = tg) ∨ (u = 1 ∧ tg' = 1 - tg))
    (hfs : 100 < se - te → (p : Int) + 4 < Builtin.Int.intBits sm + se - Builtin.Int.intBits tm - te → Builtin.Int.intBits sm ≤ p + 1 ∧ p + 10 ≤ se + E)
    (hft : 100 < te - se → (p : Int) + 4 < Builtin.Int.intBits tm + te - Builtin.Int.intBits sm - se → Builtin.Int.intBits tm ≤ p + 1 ∧ p + 10 ≤ te + E) :
    ∃ d, Ok W 4 ("mpf_add" : Str) [s, t, .int p, .str (mch m), .int u] d ∧ Good E (X + sv tg' tm * 2 ^ (te + E).toNat) p m d :=
  fn_ex H 5 (k_mpf_add P) (by kernel_rfl) (bnd_mpf_add_5 H.K _ _ _ _ _) rfl (by decide) (mpf_add_wp H u tg' ks kt hE hp hp2 hb1 hb2 ho ho2 hu hfs hft)
theorem mpf_add_ok4 (H : Here W P) (ks : Pt E X s sg sm se) (kt : Pt E Y t tg tm te) (hE : 1 ≤ E) (hp : 1 ≤ p) (hp2 : p ≤ 1000) (hb1 : Builtin.Int.intBits sm ≤ 1000) (hb2 : Builtin.Int.intBits tm ≤ 1000) (ho : se - te ≤ 100000) (ho2 : te - se ≤ 100000)
    (hfs : 100 < se - te → (p : Int) + 4 < Builtin.Int.intBits sm + se - Builtin.Int.intBits tm - te → Builtin.Int.intBits sm ≤ p + 1 ∧ p + 10 ≤ se + E)
    (hft : 100 < te - se → (p : Int) + 4 < Builtin.Int.intBits tm + te - Builtin.Int.intBits sm - se → Builtin.Int.intBits tm ≤ p + 1 ∧ p + 10 ≤ te + E) :
    ∃ d, Ok W 4 ("mpf_add" : Str) [s, t, .int p, .str (mch m)] d ∧ Good E (X + Y) p m d := by
  have h := mpf_add_wp (m := m) H 0 tg ks kt hE hp hp2 hb1 hb2 ho ho2 (.inl ⟨rfl, rfl⟩) hfs hft
  rw [← kt.hX] at h
  exact fn_ex H 5 (k_mpf_add P) (by kernel_rfl) (bnd_mpf_add_4 H.K _ _ _ _) rfl (by decide) h
theorem mpf_sub_ok (H : Here W P) (ks : Pt E X s sg sm se) (kt : Pt E Y t tg tm te) (hE : 1 ≤ E) (hp : 1 ≤ p) (hp2 : p ≤ 1000) (hb1 : Builtin.Int.intBits sm ≤ 1000) (hb2 : Builtin.Int.intBits tm ≤ 1000) (ho : se - te ≤ 100000) (ho2 : te - se ≤ 100000)
    (hfs : 100 < se - te → (p : Int) + 4 < Builtin.Int.intBits sm + se - Builtin.Int.intBits tm - te → Builtin.Int.intBits sm ≤ p + 1 ∧ p + 10 ≤ se + E)
    (hft : 100 < te - se → (p : Int) + 4 < Builtin.Int.intBits tm + te - Builtin.Int.intBits sm - se → Builtin.Int.intBits tm ≤ p + 1 ∧ p + 10 ≤ te + E) :
    ∃ d, Ok W 5 ("mpf_sub" : Str) [s, t, .int p, .str (mch m)] d ∧ Good E (X - Y) p m d := by
  obtain ⟨d, h1, h2⟩ := mpf_add_ok5 (m := m) H 1 (1 - tg) ks kt hE hp hp2 hb1 hb2 ho ho2 (.inr ⟨rfl, rfl⟩) hfs hft
  have e : X + sv (1 - tg) tm * 2 ^ (te + E).toNat = X - Y := by
    rw [kt.hX]
    rcases kt.hsg with rfl | rfl
    · rw [show (1 : Int) - 0 = 1 from rfl, sv_0, sv_1, Int.neg_mul]; omega
    · rw [show (1 : Int) - 1 = 0 from rfl, sv_0, sv_1, Int.neg_mul]; omega
  rw [e] at h2
  refine ⟨d, fn_ok H 4 (k_mpf_sub P) (by kernel_rfl) (bnd_mpf_sub_4 H.K _ _ _ _) rfl (by decide) ?_, h2⟩
  show wpSs _ [some s, some t, some (.int p), some (.str (mch m))] b_mpf_sub _ _
  unfold b_mpf_sub
  exact st_ret (e_call (ds := [s, t, .int p, .str (mch m), .int 1]) (by ktr_unf) h1 rfl)

theorem wpE_or0 {ok : Str → List D → D → Prop} {ρ : Rho} {l r : ME} {P : D → Prop} (h : wpE ok ρ l (· = .int 0)) (hP : wpE ok ρ r P) : wpE ok ρ (.or l r) P := by
  unfold wpE
  refine wpE_mono l (fun a ha => ?_) h
  subst ha
  exact ⟨fun z => by simp at z, fun _ => hP⟩
/-- what fits is exact -/
theorem good_exact {d : D} {Z : Int} (h : Good E Z p m d) (hf : Fits p Z) : Is E Z d := by
  obtain ⟨r, h1, h2⟩ := h
  rw [← h2.uniq (Rnd.ex hf m)]
  exact h1

theorem add2_fin (H : Here W P) {o0 o1 o4 o5 o7 o8 o9 o10 o12 o13 o14 o16 : Option D} {e11 sg man Z : Int} {N : Rho → Prop} (hsg : sg = 0 ∨ sg = 1) (h0 : 0 < man) (hsz : Builtin.Int.intBits man ≤ 1000000) (hE : 1 ≤ e11 + E) (hv : sv sg man * 2 ^ (e11 + E).toNat = Z) :
    wpSs (Ok W 3) [o0, o1, some (.int 0), some (.str (mch .d)), o4, o5, some (.int sg), o7, o8, o9, o10, some (.int e11), o12, o13, o14, some (.int man), o16] [.asg 14 (.bl (.loc 15)), .ret (.call ("normalize" : Str) [.loc 6, .loc 15, .loc 11, .loc 14, .or (.loc 2) (.loc 14), .loc 3])] N (Is E Z) := by
  refine st_asg (x := .int (Builtin.Int.intBits man)) (by ktr_unf) (by ktr_rel) (st_ret ?_)
  have hb := bits_pos h0
  obtain ⟨d, h1, h2⟩ := nz H (m := .d) hsg (show 0 ≤ man by omega) hb hsz hE hv
  refine e_callx (ds := [.int sg, .int man, .int e11, .int (Builtin.Int.intBits man), .int (Builtin.Int.intBits man), .str (mch .d)]) ?_ ⟨d, h1, good_exact h2 ?_⟩
  · refine es_cons (x := .int sg) (by ktr_unf) (es_cons (x := .int man) (by ktr_unf) (es_cons (x := .int e11) (by ktr_unf) (es_cons (x := .int (Builtin.Int.intBits man)) (by ktr_unf) (es_cons (x := .int (Builtin.Int.intBits man)) (wpE_or0 (by ktr_unf) (by ktr_unf)) (es_cons (x := .str (mch .d)) (by ktr_unf) (es_nil rfl))))))
  · rw [← hv]
    have := bits_lt (x := man) (by omega)
    exact fits_mk (by omega) (by omega) hE
theorem add2_abs (H : Here W P) {o0 o1 o4 o5 o6 o7 o8 o9 o10 o12 o13 o14 o16 : Option D} {e11 M Z : Int} {N : Rho → Prop} (h0 : M ≠ 0) (hsz : Builtin.Int.intBits M ≤ 1000000) (hE : 1 ≤ e11 + E) (hv : M * 2 ^ (e11 + E).toNat = Z) :
    wpSs (Ok W 3) [o0, o1, some (.int 0), some (.str (mch .d)), o4, o5, o6, o7, o8, o9, o10, some (.int e11), o12, o13, o14, some (.int M), o16] [.ite (.cmp .GtE (.loc 15) (.int (0))) [.asg 6 (.int (0))] [.asg 15 (.neg (.loc 15)), .asg 6 (.int (1))]]
      (fun ρ' => wpSs (Ok W 3) ρ' [.asg 14 (.bl (.loc 15)), .ret (.call ("normalize" : Str) [.loc 6, .loc 15, .loc 11, .loc 14, .or (.loc 2) (.loc 14), .loc 3])] N (Is E Z)) (Is E Z) := by
  refine st_ite (C := 0 ≤ M) (by ktr_unf) (fun z => ?_) (fun z => ?_)
  · refine st_asg (x := .int 0) (by ktr_unf) (by ktr_rel) (st_nil (st_nil ?_))
    exact add2_fin H (.inl rfl) (by omega) hsz hE (by rw [sv_0]; exact hv)
  · refine st_asg (x := .int (-M)) (by ktr_unf) (by ktr_rel) (st_asg (x := .int 1) (by ktr_unf) (by ktr_rel) (st_nil (st_nil ?_)))
    exact add2_fin H (.inr rfl) (by omega) (by rw [intBits_neg]; exact hsz) hE (by rw [sv_abs1 (by omega)]; exact hv)

/-- the law's own sum: a number and one unit, three places below -/
theorem mpf_add_ok2 (H : Here W P) (ks : Pt E X s sg sm se) (htg : tg = 0 ∨ tg = 1) (hs : sm ≠ 0) (hE : 1 ≤ E) (hb1 : Builtin.Int.intBits sm ≤ 1000) (tE : 1 ≤ se - 3 + E) :
    ∃ d, Ok W 4 ("mpf_add" : Str) [s, num tg 1 (se - 3) 1] d ∧ Is E (X + sv tg 1 * 2 ^ (se - 3 + E).toNat) d := by
  refine fn_ex H 5 (k_mpf_add P) (by kernel_rfl) (bnd_mpf_add_2 H.K _ _) rfl (by decide) ?_
  show wpSs _ [some s, some (num tg 1 (se - 3) 1), some (.int 0), some (.str (mch .d)), some (.int 0), none, none, none, none, none, none, none, none, none, none, none, none] b_mpf_add _ _
  have hbs := bits_mul_le (x := sm) (k := 3)
  have ksg := ks.hsg
  have ks0 := ks.hman
  have hlow := add_low (sg := sg) (tg := tg) (sm := sm) (tm := 1) (o := 3) (show se - (se - 3) = ((3 : Nat) : Int) by omega) tE
  have h8 : sm * 2 ^ 3 = 8 * sm := by omega
  have hb1' : Builtin.Int.intBits 1 ≤ 2000 := by decide
  rw [ks.hX, hlow]
  rw [ks.hd]
  unfold b_mpf_add
  refine st_asgT (ds := [.int sg, .int sm, .int se, .int (Builtin.Int.intBits sm)]) (by ktr_unf) (by ktr_rel) ?_
  refine st_asgT (ds := [.int tg, .int 1, .int (se - 3), .int 1]) (by ktr_unf) (by ktr_rel) ?_
  refine st_aug (y := .int tg) (z := .int 0) (x := .int tg) rfl (by ktr_unf) ?_ (by ktr_rel) ?_
  · show PyData.int (Builtin.bitXor tg 0) = .int tg
    rcases htg with rfl | rfl <;> rfl
  refine st_ite (C := True) (t_iff (t_and (A := sm ≠ 0) (B := (1 : Int) ≠ 0) (t_int (by ktr_unf)) fun _ => t_int (by ktr_unf)) (by simp [hs])) (fun _ => ?_) (fun zz => absurd trivial zz)
  refine st_asg (x := .int 3) (by ktr_unf; omega) (by ktr_rel) ?_
  refine st_ite (C := True) (t_iff (t_int (x := 3) (by ktr_unf)) (by simp)) (fun _ => ?_) (fun z => absurd trivial z)
  refine st_ite (C := True) (t_iff (A := (0 : Int) < 3) (by ktr_unf) (by simp)) (fun _ => ?_) (fun z => absurd trivial z)
  refine st_ite (C := False) (t_iff (t_and (A := (100 : Int) < 3) (B := False) (by ktr_unf) (fun z => by omega)) (by simp)) (fun z => z.elim) (fun _ => st_nil ?_)
  refine st_ite (C := sg = tg) (by ktr_unf) (fun z3 => ?_) (fun z3 => ?_)
  · refine st_asg (x := .int (1 + sm * 2 ^ 3)) (by ktr_unf; exact ⟨⟨by omega, by omega⟩, rfl⟩) (by ktr_rel) (st_nil ?_)
    refine add2_fin H ksg (by omega) ?_ tE ?_
    · have := bits_add (a := 1) (b := sm * 2 ^ 3) (k := 2000) (by omega) (by omega); omega
    · rw [← z3, sv_same, Int.add_comm 1]
  · refine st_ite (C := sg ≠ 0) (t_int (by ktr_unf)) (fun z4 => ?_) (fun z4 => ?_)
    · refine st_asg (x := .int (1 - sm * 2 ^ 3)) (by ktr_unf; exact ⟨⟨by omega, by omega⟩, rfl⟩) (by ktr_rel) (st_nil ?_)
      refine add2_abs H (by omega) ?_ tE ?_
      · have := bits_sub (a := 1) (b := sm * 2 ^ 3) (k := 2000) (by omega) (by omega); omega
      · rw [show sg = 1 by omega, show tg = 0 by omega, sv_0, sv_1]; congr 1; omega
    · refine st_asg (x := .int (sm * 2 ^ 3 - 1)) (by ktr_unf; exact ⟨⟨by omega, by omega⟩, rfl⟩) (by ktr_rel) (st_nil ?_)
      refine add2_abs H (by omega) ?_ tE ?_
      · have := bits_sub (a := sm * 2 ^ 3) (b := 1) (k := 2000) (by omega) (by omega); omega
      · rw [show sg = 0 by omega, show tg = 1 by omega, sv_0, sv_1]; congr 1
end
end Mine

end

section
open PySem PySem.Calls
set_option maxRecDepth 100000
set_option linter.unusedVariables false
set_option linter.unusedSimpArgs false
namespace Mine
local macro_rules
  | `(tactic| ktr_unf) => `(tactic| simp only [wpT, wpE, wpEs, wpTr, truthD, wpBin, optP, cmpD, itemD, eq4, setAll, List.map_cons, List.map_nil, List.reverse_cons, List.reverse_nil, List.nil_append, List.cons_append, List.getElem?_cons_zero, List.getElem?_cons_succ, List.set_cons_zero, List.set_cons_succ, Option.some.injEq, PyData.int.injEq, PyData.bool.injEq, PyData.tuple.injEq, PyData.str.injEq, decide_eq_true_eq, Bool.not_eq_true', decide_eq_false_iff_not, num])
local macro_rules
  | `(tactic| ktr_rel) => `(tactic| (simp only [setAll, List.reverse_cons, List.reverse_nil, List.nil_append, List.cons_append, List.set_cons_zero, List.set_cons_succ]; rfl))

theorem mul_ok {a b : Int} (ha : Builtin.Int.intBits a ≤ 1000000) (hb : Builtin.Int.intBits b ≤ 1000000) : IntMulOk a b := by
  unfold IntMulOk Builtin.Int.intTooBig
  have : ¬ ((Builtin.Int.intBits a : Int) + (Builtin.Int.intBits b : Int) > (bitsLine : Int)) := by
    have : (bitsLine : Int) ≥ 2000000 := by decide
    omega
  rw [decide_eq_false this]
  simp
theorem bits_mul2 {a b : Int} : Builtin.Int.intBits (a * b) ≤ Builtin.Int.intBits a + Builtin.Int.intBits b := by
  have h1 := PySem.intBits_le_iff.mp (Nat.le_refl (Builtin.Int.intBits a))
  have h2 := PySem.intBits_le_iff.mp (Nat.le_refl (Builtin.Int.intBits b))
  refine PySem.intBits_le_iff.mpr ?_
  rw [Int.natAbs_mul, Nat.pow_add]
  exact Nat.mul_lt_mul'' h1 h2
theorem bits_mono {a b : Int} (h : a.natAbs ≤ b.natAbs) : Builtin.Int.intBits a ≤ Builtin.Int.intBits b :=
  PySem.intBits_le_iff.mpr (Nat.lt_of_le_of_lt h (PySem.intBits_le_iff.mp (Nat.le_refl _)))
def xr (a b : Int) : Int := if a = b then 0 else 1
theorem xr_ok {a b : Int} (ha : a = 0 ∨ a = 1) (hb : b = 0 ∨ b = 1) : Builtin.bitXor a b = xr a b := by
  rcases ha with rfl | rfl <;> rcases hb with rfl | rfl <;> rfl
theorem xr_sg (a b : Int) : xr a b = 0 ∨ xr a b = 1 := by unfold xr; split <;> simp
theorem sv_xr {a b x y : Int} (ha : a = 0 ∨ a = 1) (hb : b = 0 ∨ b = 1) : sv (xr a b) (x * y) = sv a x * sv b y := by
  rcases ha with rfl | rfl <;> rcases hb with rfl | rfl <;> simp [sv, xr, Int.neg_mul, Int.mul_neg]
theorem t_val {ok : Str → List D → D → Prop} {ρ : Rho} {e : ME} {d : D} {b : Bool} (h : wpE ok ρ e (· = d)) (hb : truthD d = some b) : wpT ok ρ e (fun t => t = true ↔ b = true) := by
  unfold wpT
  exact wpE_mono e (fun x hx => by subst hx; exact wpTr_some hb Iff.rfl) h
theorem spec_val {ok : Str → List D → D → Prop} {ρ : Rho} {l r : ME} {a b : Int} (hl : wpE ok ρ l (· = .int a)) (hr : wpE ok ρ r (· = .int b)) (h : a = 0 → b = 0) : ∃ d, wpE ok ρ (.and (.not l) r) (· = d) ∧ truthD d = some false := by
  by_cases z : a = 0
  · refine ⟨.int 0, ?_, rfl⟩
    unfold wpE
    unfold wpE
    refine wpE_mono l (fun x hx => ?_) hl
    subst hx
    subst z
    have := h rfl
    subst this
    exact ⟨fun _ => hr, fun q => by simp at q⟩
  · refine ⟨.bool false, ?_, rfl⟩
    unfold wpE
    unfold wpE
    refine wpE_mono l (fun x hx => ?_) hl
    subst hx
    show wpTr (.int a) _
    refine wpTr_some (b := true) (by simp [truthD, z]) ?_
    exact ⟨fun q => by simp at q, fun _ => rfl⟩

section
variable {W : Wd} {P : Params} {E1 E2 X Y : Int} {s t : D} {sg sm se tg tm te : Int} {p : Nat} {m : Mode}
theorem mul_val (ks : Pt E1 X s sg sm se) (kt : Pt E2 Y t tg tm te) : sv (xr sg tg) (sm * tm) * 2 ^ (se + te + (E1 + E2)).toNat = X * Y := by
  have h1 := ks.hexp
  have h2 := kt.hexp
  rw [ks.hX, kt.hX, sv_xr ks.hsg kt.hsg, show (se + te + (E1 + E2)).toNat = (se + E1).toNat + (te + E2).toNat by omega, pow_add2]
  simp only [Int.mul_assoc, Int.mul_left_comm]
theorem mpf_mul_ok (H : Here W P) (ks : Pt E1 X s sg sm se) (kt : Pt E2 Y t tg tm te) (hp : 1 ≤ p) (hb1 : Builtin.Int.intBits sm ≤ 1000) (hb2 : Builtin.Int.intBits tm ≤ 1000) :
    ∃ d, Ok W 4 ("mpf_mul" : Str) [s, t, .int p, .str (mch m)] d ∧ Good (E1 + E2) (X * Y) p m d := by
  refine fn_ex H 4 (k_mpf_mul P) (by kernel_rfl) (bnd_mpf_mul_4 H.K _ _ _ _) rfl (by decide) ?_
  show wpSs _ [some s, some t, some (.int p), some (.str (mch m)), none, none, none, none, none, none, none, none, none, none, none, none, none] b_mpf_mul _ _
  have hb := bits_mul2 (a := sm) (b := tm)
  have h1 := ks.hexp
  have h2 := kt.hexp
  have hval := mul_val ks kt
  have hpos : 0 ≤ sm * tm := Int.mul_nonneg ks.hman kt.hman
  rw [ks.hd, kt.hd]
  unfold b_mpf_mul
  refine st_asgT (ds := [.int sg, .int sm, .int se, .int (Builtin.Int.intBits sm)]) (by ktr_unf) (by ktr_rel) ?_
  refine st_asgT (ds := [.int tg, .int tm, .int te, .int (Builtin.Int.intBits tm)]) (by ktr_unf) (by ktr_rel) ?_
  refine st_asg (x := .int (xr sg tg)) (by ktr_unf; exact xr_ok ks.hsg kt.hsg) (by ktr_rel) ?_
  refine st_asg (x := .int (sm * tm)) (by ktr_unf; exact ⟨mul_ok (by omega) (by omega), trivial⟩) (by ktr_rel) ?_
  refine st_ite (C := sm * tm ≠ 0) (t_int (by ktr_unf)) (fun z => ?_) (fun z => st_nil ?_)
  · refine st_asg (x := .int (Builtin.Int.intBits (sm * tm))) (by ktr_unf) (by ktr_rel) ?_
    refine st_ite (C := (p : Int) ≠ 0) (t_int (by ktr_unf)) (fun _ => ?_) (fun z => by omega)
    exact st_ret (e_callx (ds := [.int (xr sg tg), .int (sm * tm), .int (se + te), .int (Builtin.Int.intBits (sm * tm)), .int p, .str (mch m)]) (by ktr_unf) (nz H (xr_sg _ _) hpos hp (by omega) (by omega) hval))
  · obtain ⟨d6, q1, q2⟩ := spec_val (ok := Ok W 3) (ρ := [some (num sg sm se (Builtin.Int.intBits sm)), some (num tg tm te (Builtin.Int.intBits tm)), some (.int p), some (.str (mch m)), some (.int (xr sg tg)), some (.int (sm * tm)), none, none, some (.int sg), some (.int sm), some (.int se), some (.int (Builtin.Int.intBits sm)), some (.int tg), some (.int tm), some (.int te), some (.int (Builtin.Int.intBits tm)), none]) (l := .loc 9) (r := .loc 10) (a := sm) (b := se) (by ktr_unf) (by ktr_unf) (fun z => (ks.hz z).2)
    refine st_asg (x := d6) q1 (by ktr_rel) ?_
    obtain ⟨d7, q3, q4⟩ := spec_val (ok := Ok W 3) (ρ := [some (num sg sm se (Builtin.Int.intBits sm)), some (num tg tm te (Builtin.Int.intBits tm)), some (.int p), some (.str (mch m)), some (.int (xr sg tg)), some (.int (sm * tm)), some d6, none, some (.int sg), some (.int sm), some (.int se), some (.int (Builtin.Int.intBits sm)), some (.int tg), some (.int tm), some (.int te), some (.int (Builtin.Int.intBits tm)), none]) (l := .loc 13) (r := .loc 14) (a := tm) (b := te) (by ktr_unf) (by ktr_unf) (fun z => (kt.hz z).2)
    refine st_asg (x := d7) q3 (by ktr_rel) ?_
    refine st_ite (C := True) (t_iff (t_and (t_not (t_val (d := d6) (by ktr_unf) q2)) fun _ => t_not (t_val (d := d7) (by ktr_unf) q4)) (by simp)) (fun _ => st_ret ?_) (fun z => absurd trivial z)
    ktr_unf
    have : X * Y = 0 := by
      rw [← hval, show sm * tm = 0 by omega]; unfold sv; simp
    rw [this]
    exact ⟨0, .inl ⟨rfl, rfl⟩, Rnd.ex (Fits.zero p) m⟩

/-- a whole number as it stands -/
theorem from_man_exp0_ok (H : Here W P) (n : Int) : ∃ d, Ok W 2 ("from_man_exp" : Str) [.int n, .int 0, .int 0, .str chD] d ∧ ∀ E : Nat, 1 ≤ E → Is E (n * 2 ^ E) d := by
  refine fn_ex H 4 (k_from_man_exp P) (by kernel_rfl) (bnd_from_man_exp_4 H.K _ _ _ _) rfl (by decide) ?_
  show wpSs _ [some (.int n), some (.int 0), some (.int 0), some (.str chD), none, none, none] b_from_man_exp _ _
  unfold b_from_man_exp
  refine st_ite (C := False) (t_iff (t_not (t_bool (b := true) (by ktr_unf))) (by simp)) (fun z => z.elim) (fun _ => st_nil ?_)
  refine st_asg (x := .int 0) (by ktr_unf) (by ktr_rel) ?_
  have rest : ∀ (sg man : Int), (sg = 0 ∨ sg = 1) → 0 ≤ man → sv sg man = n → (man = 0 → sg = 0) → wpSs (Ok W 1) [some (.int man), some (.int 0), some (.int 0), some (.str chD), some (.int sg), none, none] (b_from_man_exp.drop 3) (fun _ => False) (fun d => ∀ E : Nat, 1 ≤ E → Is E (n * 2 ^ E) d) := by
    intro sg man hsg h0 hv hz
    show wpSs _ _ [MS.asg _ _, MS.ite _ _ _, MS.ret _] _ _
    refine st_asg (x := .int (Builtin.Int.intBits man)) (by ktr_unf) (by ktr_rel) ?_
    refine st_ite (C := True) (t_iff (t_not (t_int (x := 0) (by ktr_unf))) (by simp)) (fun _ => ?_) (fun z => absurd trivial z)
    refine st_ite (C := man = 0) (t_iff (t_not (t_int (x := man) (by ktr_unf))) (by simp)) (fun z => st_ret ?_) (fun z => st_nil ?_)
    · ktr_unf
      intro E hE
      have : n = 0 := by rw [← hv, z]; unfold sv; simp
      rw [this, Int.zero_mul]
      exact .inl ⟨rfl, rfl⟩
    obtain ⟨q, k, e, hq⟩ := odd_ex z
    have hk := pow_pos2 k
    have hq0 : 0 < q := by
      by_cases z : 0 < q
      · exact z
      · have : q * 2 ^ k ≤ 0 := Int.mul_nonpos_of_nonpos_of_nonneg (by omega) (by omega)
        omega
    have hbits := bits_mul (k := k) hq0
    rw [← e] at hbits
    have done : ∀ E : Nat, 1 ≤ E → Is E (n * 2 ^ E) (num sg q k (Builtin.Int.intBits q)) := fun E hE => by
      have := is_mk (E := E) (e1 := 0) hsg (show 0 < man by omega) e hq (by omega)
      rw [hv, Int.zero_add, Int.zero_add, Int.toNat_natCast] at this
      exact this
    have hpar : man % 2 = 1 ↔ k = 0 := by
      cases k with
      | zero => simp at e; simp; omega
      | succ k => rw [Int.pow_succ, ← Int.mul_assoc] at e; simp; omega
    have hpar2 : k ≠ 0 → (man / 2 % 2 = 1 ↔ k = 1) := fun hk => by
      obtain ⟨j, rfl⟩ : ∃ j, k = j + 1 := ⟨k - 1, by omega⟩
      have e2 : man / 2 = q * 2 ^ j := by
        rw [e, Int.pow_succ, ← Int.mul_assoc, Int.mul_ediv_cancel _ (by decide)]
      cases j with
      | zero => simp at e2; simp; omega
      | succ j => rw [Int.pow_succ, ← Int.mul_assoc] at e2; simp; omega
    refine st_ite (C := k ≠ 0) (t_iff (t_not (t_int (x := man % 2) (by ktr_unf; exact and1 _))) (by omega)) (fun z => ?_) (fun z => st_nil (st_ret ?_))
    · refine st_ite (C := k = 1) (t_iff (t_int (x := man / 2 ^ 1 % 2 * 2 ^ 1) (by ktr_unf; exact PySem.W.kbt_bit _ 1)) (by have := hpar2 z; omega)) (fun z1 => st_ret ?_) (fun z1 => st_nil ?_)
      · subst z1
        ktr_unf
        refine ⟨by omega, ?_⟩
        rw [show man.fdiv (2 ^ (1 : Int).toNat) = q by rw [e]; exact PySem.W.kbt_q1 q 1, show (Builtin.Int.intBits man : Int) - 1 = Builtin.Int.intBits q by omega]
        exact done
      · refine st_asg (x := .int k) (e_call (ds := [.int man]) (by ktr_unf) (trailing_ok H (by omega) e hq) rfl) (by ktr_rel) ?_
        refine st_aug (y := .int man) (z := .int k) (x := .int q) rfl (by ktr_unf) ⟨by omega, by rw [Int.toNat_natCast, e, PySem.W.kbt_q1]⟩ (by ktr_rel) ?_
        refine st_aug (y := .int 0) (z := .int k) (x := .int k) rfl (by ktr_unf) (by show PyData.int (0 + k) = _; rw [Int.zero_add]) (by ktr_rel) ?_
        refine st_aug (y := .int (Builtin.Int.intBits man)) (z := .int k) (x := .int (Builtin.Int.intBits q)) rfl (by ktr_unf) (by show PyData.int (_ - _) = _; congr 1; omega) (by ktr_rel) (st_nil (st_ret ?_))
        ktr_unf
        exact done
    · have z : k = 0 := by omega
      subst z
      ktr_unf
      have : man = q := by simpa using e
      rw [this]
      exact done
  refine st_ite (C := n < 0) (by ktr_unf) (fun z => ?_) (fun z => st_nil (rest 0 n (.inl rfl) (by omega) sv_0 (fun _ => rfl)))
  refine st_asg (x := .int 1) (by ktr_unf) (by ktr_rel) (st_asg (x := .int (-n)) (by ktr_unf) (by ktr_rel) (st_nil ?_))
  exact rest 1 (-n) (.inr rfl) (by omega) (sv_abs1 z) (fun q => by omega)
theorem from_int_ok (H : Here W P) (n : Int) : ∃ d, Ok W 3 ("from_int" : Str) [.int n] d ∧ ∀ E : Nat, 1 ≤ E → Is E (n * 2 ^ E) d := by
  obtain ⟨d, h1, h2⟩ := from_man_exp0_ok H n
  refine ⟨d, fn_ok H 3 (k_from_int P) (by kernel_rfl) (bnd_from_int_1 H.K _) rfl (by decide) ?_, h2⟩
  show wpSs _ [some (.int n), some (.int 0), some (.str chD)] b_from_int _ _
  unfold b_from_int
  exact st_ret (e_call (ds := [.int n, .int 0, .int 0, .str chD]) (by ktr_unf) h1 rfl)

/-- to p digits -/
theorem from_man_exp_ok (H : Here W P) {E man exp : Int} (h0 : 0 ≤ man) (hp : 1 ≤ p) (hsz : Builtin.Int.intBits man ≤ 1000000) (hE : 1 ≤ exp + E) :
    ∃ d, Ok W 4 ("from_man_exp" : Str) [.int man, .int exp, .int p, .str (mch m)] d ∧ Good E (man * 2 ^ (exp + E).toNat) p m d := by
  refine fn_ex H 4 (k_from_man_exp P) (by kernel_rfl) (bnd_from_man_exp_4 H.K _ _ _ _) rfl (by decide) ?_
  show wpSs _ [some (.int man), some (.int exp), some (.int p), some (.str (mch m)), none, none, none] b_from_man_exp _ _
  unfold b_from_man_exp
  refine st_ite (C := False) (t_iff (t_not (t_bool (b := true) (by ktr_unf))) (by simp)) (fun z => z.elim) (fun _ => st_nil ?_)
  refine st_asg (x := .int 0) (by ktr_unf) (by ktr_rel) ?_
  refine st_ite (C := man < 0) (by ktr_unf) (fun z => by omega) (fun z => st_nil ?_)
  refine st_asg (x := .int (Builtin.Int.intBits man)) (by ktr_unf) (by ktr_rel) ?_
  refine st_ite (C := False) (t_iff (t_not (t_int (x := p) (by ktr_unf))) (by simp; omega)) (fun z => z.elim) (fun _ => st_nil ?_)
  exact st_ret (e_callx (ds := [.int 0, .int man, .int exp, .int (Builtin.Int.intBits man), .int p, .str (mch m)]) (by ktr_unf) (nz H (.inl rfl) h0 hp hsz hE (by rw [sv_0])))
end
end Mine

end

section
open PySem PySem.Calls
set_option maxRecDepth 100000
set_option linter.unusedVariables false
set_option linter.unusedSimpArgs false
namespace Mine
local macro_rules
  | `(tactic| ktr_unf) => `(tactic| simp only [wpT, wpE, wpEs, wpTr, truthD, wpBin, optP, cmpD, itemD, eq4, setAll, List.map_cons, List.map_nil, List.reverse_cons, List.reverse_nil, List.nil_append, List.cons_append, List.getElem?_cons_zero, List.getElem?_cons_succ, List.set_cons_zero, List.set_cons_succ, Option.some.injEq, PyData.int.injEq, PyData.bool.injEq, PyData.tuple.injEq, PyData.str.injEq, decide_eq_true_eq, Bool.not_eq_true', decide_eq_false_iff_not, num])
local macro_rules
  | `(tactic| ktr_rel) => `(tactic| (simp only [setAll, List.reverse_cons, List.reverse_nil, List.nil_append, List.cons_append, List.set_cons_zero, List.set_cons_succ]; rfl))

theorem prod_bits {a b : Int} (ha : 0 < a) (hb : 0 < b) : (Builtin.Int.intBits a : Int) + (Builtin.Int.intBits b - 1) + (a * b).fdiv (2 ^ ((Builtin.Int.intBits a : Int) + (Builtin.Int.intBits b - 1)).toNat) = Builtin.Int.intBits (a * b) := by
  have h1 := bits_pos ha
  have h2 := bits_pos hb
  have l1 := bits_lt (x := a) (by omega)
  have l2 := bits_lt (x := b) (by omega)
  have g1 := bits_ge ha
  have g2 := bits_ge hb
  generalize Builtin.Int.intBits a = A at *
  generalize Builtin.Int.intBits b = B at *
  obtain ⟨C, hC⟩ : ∃ C, A + B = C + 1 := ⟨A + B - 1, by omega⟩
  have hCC : ((A : Int) + (B - 1)).toNat = C := by omega
  rw [hCC, fdiv2]
  have hpos := Int.mul_pos ha hb
  have pA := pow_pos2 A
  have pB := pow_pos2 B
  have pC := pow_pos2 C
  have u1 : a * b < 2 ^ (C + 1) := by
    rw [← hC, pow_add2]
    exact Int.lt_of_lt_of_le (Int.mul_lt_mul_of_pos_right l1 hb) (Int.mul_le_mul_of_nonneg_left (by omega) (by omega))
  have u2 : 2 ^ (C + 1) ≤ 4 * (a * b) := by
    rw [← hC, pow_add2]
    have k1 : (2 : Int) ^ A * 2 ^ B ≤ (2 * a) * 2 ^ B := Int.mul_le_mul_of_nonneg_right g1 (by omega)
    have k2 : (2 * a) * 2 ^ B ≤ (2 * a) * (2 * b) := Int.mul_le_mul_of_nonneg_left g2 (by omega)
    have k3 : (2 * a) * (2 * b) = 4 * (a * b) := by
      rw [Int.mul_assoc, Int.mul_left_comm a 2 b]; omega
    omega
  have e2 : (2 : Int) ^ (C + 1) = 2 * 2 ^ C := by rw [Int.pow_succ, Int.mul_comm]
  by_cases z : a * b < 2 ^ C
  · rw [Int.ediv_eq_zero_of_lt (by omega) z, bits_eq hpos z (by omega)]; omega
  · have : (a * b) / 2 ^ C = 1 := by
      have := PySem.W.kbt_unique (a := a * b) (b := 2 ^ C) (q := 1) (r := a * b - 2 ^ C) pC (by omega) (by omega) (by omega)
      exact this.1
    rw [this, bits_of (by omega) u1]; omega

section
variable {W : Wd} {P : Params} {E X : Int} {s : D} {sg sm se : Int} {p : Nat} {m : Mode}
theorem mpf_mul_int_ok (H : Here W P) (ks : Pt E X s sg sm se) (n : Int) (hp : 1 ≤ p) (hb1 : Builtin.Int.intBits sm ≤ 1000) (hb2 : Builtin.Int.intBits n ≤ 1000) :
    ∃ d, Ok W 5 ("mpf_mul_int" : Str) [s, .int n, .int p, .str (mch m)] d ∧ Good E (X * n) p m d := by
  refine fn_ex H 4 (k_mpf_mul_int P) (by kernel_rfl) (bnd_mpf_mul_int_4 H.K _ _ _ _) rfl (by decide) ?_
  show wpSs _ [some s, some (.int n), some (.int p), some (.str (mch m)), none, none, none, none] b_mpf_mul_int _ _
  unfold b_mpf_mul_int
  rw [ks.hd]
  have hE := ks.hexp
  refine st_asgT (ds := [.int sg, .int sm, .int se, .int (Builtin.Int.intBits sm)]) (by ktr_unf) (by ktr_rel) ?_
  refine st_ite (C := sm = 0) (t_iff (t_not (t_int (x := sm) (by ktr_unf))) (by simp)) (fun z => ?_) (fun z => st_nil ?_)
  · obtain ⟨dn, h1, h2⟩ := from_int_ok H n
    have hX0 : X = 0 := by rw [ks.hX, z]; unfold sv; simp
    obtain ⟨tg, tm, te, kt⟩ := (h2 1 (by omega)).pt (by omega)
    have hbt : Builtin.Int.intBits tm ≤ 1000 := by
      have := kt.natAbs
      refine Nat.le_trans (bits_mono ?_) hb2
      rw [Int.natAbs_mul] at this
      by_cases z : te + 1 ≤ 0
      · have := kt.hexp; omega
      · obtain ⟨j, hj⟩ : ∃ j, (te + ((1 : Nat) : Int)).toNat = j + 1 := ⟨te.toNat, by have := kt.hexp; omega⟩
        rw [hj, Nat.pow_succ, show ((2 : Int) ^ 1).natAbs = 2 from rfl] at this
        have h3 : tm.natAbs ≤ tm.natAbs * 2 ^ j := Nat.le_mul_of_pos_right _ (Nat.two_pow_pos j)
        rw [← Nat.mul_assoc] at this
        omega
    obtain ⟨d, h3, h4⟩ := mpf_mul_ok (m := m) H (ks.hd ▸ ks) kt hp hb1 hbt
    refine st_ret (e_callx (ds := [num sg sm se (Builtin.Int.intBits sm), dn, .int p, .str (mch m)]) ?_ ⟨d, h3.more (by omega), 0, ?_, ?_⟩)
    · exact es_cons (x := num sg sm se (Builtin.Int.intBits sm)) (by ktr_unf) (es_cons (e_call (ds := [.int n]) (by ktr_unf) (h1.more (by omega)) rfl) (es_cons (x := .int p) (by ktr_unf) (es_cons (x := .str (mch m)) (by ktr_unf) (es_nil rfl))))
    · rw [hX0, Int.zero_mul] at h4
      have := good_exact h4 (Fits.zero p)
      rcases this with ⟨_, this⟩ | ⟨a, b, c, _, _, h5, _, _, h6⟩
      · exact .inl ⟨rfl, this⟩
      · exact absurd h6.symm (Int.mul_ne_zero (sv_ne h5) (Int.ne_of_gt (pow_pos2 _)))
    · rw [hX0, Int.zero_mul]; exact Rnd.ex (Fits.zero p) m
  have hs : 0 < sm := by have := ks.hman; omega
  refine st_ite (C := n = 0) (t_iff (t_not (t_int (x := n) (by ktr_unf))) (by simp)) (fun z => st_ret ?_) (fun z => st_nil ?_)
  · ktr_unf
    rw [z, Int.mul_zero]
    exact ⟨0, .inl ⟨rfl, rfl⟩, Rnd.ex (Fits.zero p) m⟩
  have rest : ∀ (sg' n' : Int), (sg' = 0 ∨ sg' = 1) → 0 < n' → Builtin.Int.intBits n' ≤ 1000 → sv sg' (sm * n') = sv sg sm * n → wpSs (Ok W 4) [some (num sg sm se (Builtin.Int.intBits sm)), some (.int n'), some (.int p), some (.str (mch m)), some (.int sm), some (.int (Builtin.Int.intBits sm)), some (.int sg'), some (.int se)] (b_mpf_mul_int.drop 4) (fun _ => False) (Good E (X * n) p m) := by
    intro sg' n' hsg hn hbn hv
    show wpSs _ _ [MS.aug _ _ _, MS.aug _ _ _, MS.aug _ _ _, MS.ret _] _ _
    have hbm := bits_mul2 (a := sm) (b := n')
    have hbp := prod_bits hs hn
    have b1 := bits_pos hs
    have b2 := bits_pos hn
    refine st_aug (y := .int sm) (z := .int n') (x := .int (sm * n')) rfl (by ktr_unf) ⟨mul_ok (by omega) (by omega), rfl⟩ (by ktr_rel) ?_
    refine st_aug (y := .int (Builtin.Int.intBits sm)) (z := .int (Builtin.Int.intBits n' - 1)) (x := .int (Builtin.Int.intBits sm + (Builtin.Int.intBits n' - 1))) rfl (by ktr_unf) rfl (by ktr_rel) ?_
    refine st_aug (y := .int (Builtin.Int.intBits sm + (Builtin.Int.intBits n' - 1))) (z := .int ((sm * n').fdiv (2 ^ ((Builtin.Int.intBits sm : Int) + (Builtin.Int.intBits n' - 1)).toNat))) (x := .int (Builtin.Int.intBits (sm * n'))) rfl (by ktr_unf; exact ⟨by omega, trivial⟩) (by show PyData.int _ = _; rw [hbp]) (by ktr_rel) ?_
    refine st_ret (e_callx (ds := [.int sg', .int (sm * n'), .int se, .int (Builtin.Int.intBits (sm * n')), .int p, .str (mch m)]) (by ktr_unf) ?_)
    obtain ⟨d, q1, q2⟩ := nz (m := m) H hsg (show 0 ≤ sm * n' by have := Int.mul_pos hs hn; omega) hp (by omega) hE rfl
    rw [hv, Int.mul_assoc, Int.mul_comm n, ← Int.mul_assoc, ← ks.hX] at q2
    exact ⟨d, q1.more (by omega), q2⟩
  refine st_ite (C := n < 0) (by ktr_unf) (fun z1 => ?_) (fun z1 => st_nil (rest sg n ks.hsg (by omega) hb2 (by rw [sv_mul])))
  refine st_aug (y := .int sg) (z := .int 1) (x := .int (xr sg 1)) rfl (by ktr_unf) (by show PyData.int _ = _; rw [xr_ok ks.hsg (.inr rfl)]) (by ktr_rel) ?_
  refine st_asg (x := .int (-n)) (by ktr_unf) (by ktr_rel) (st_nil ?_)
  refine rest (xr sg 1) (-n) (xr_sg _ _) (by omega) (by rw [intBits_neg]; exact hb2) ?_
  rw [sv_xr ks.hsg (.inr rfl), sv_1, Int.neg_neg]
end
end Mine

end

section
open PySem PySem.Calls
set_option maxRecDepth 100000
set_option linter.unusedVariables false
set_option linter.unusedSimpArgs false
namespace Mine
local macro_rules
  | `(tactic| ktr_unf) => `(tactic| simp only [wpT, wpE, wpEs, wpTr, truthD, wpBin, optP, cmpD, itemD, eq4, setAll, List.map_cons, List.map_nil, List.reverse_cons, List.reverse_nil, List.nil_append, List.cons_append, List.getElem?_cons_zero, List.getElem?_cons_succ, List.set_cons_zero, List.set_cons_succ, Option.some.injEq, PyData.int.injEq, PyData.bool.injEq, PyData.tuple.injEq, PyData.str.injEq, decide_eq_true_eq, Bool.not_eq_true', decide_eq_false_iff_not, num])
local macro_rules
  | `(tactic| ktr_rel) => `(tactic| (simp only [setAll, List.reverse_cons, List.reverse_nil, List.nil_append, List.cons_append, List.set_cons_zero, List.set_cons_succ]; rfl))

/-- the cut of a quotient -/
def divc (N D : Int) (hD : 0 < D) : Cut where
  L V := V * D ≤ N
  U V := N ≤ V * D
  tot V := by omega
  sep := fun h k => Int.le_of_mul_le_mul_right (Int.le_trans h k) hD
  Ld := fun h k => Int.le_trans (Int.mul_le_mul_of_nonneg_right k (Int.le_of_lt hD)) h
  Uu := fun h k => Int.le_trans h (Int.mul_le_mul_of_nonneg_right k (Int.le_of_lt hD))

/-- the last bit stands for all that lies behind it -/
theorem sticky {C : Cut} {p w : Nat} {q : Int} (hq : 2 ^ (p + 1) ≤ 2 * q) (h1 : C.L (q * 2 ^ (w + 1))) (h1' : ¬ C.U (q * 2 ^ (w + 1))) (h2 : C.U ((q + 1) * 2 ^ (w + 1))) (h2' : ¬ C.L ((q + 1) * 2 ^ (w + 1))) :
    ∀ Z, Fits (p + 1) Z → (C.L Z ↔ Z ≤ (2 * q + 1) * 2 ^ w) ∧ (C.U Z ↔ (2 * q + 1) * 2 ^ w ≤ Z) := by
  intro Z hZ
  have hw := pow_pos2 w
  have e1 : (2 * q + 1) * 2 ^ w = q * 2 ^ (w + 1) + 2 ^ w := by
    rw [Int.add_mul, Int.one_mul, Int.pow_succ, Int.mul_comm (2 ^ w) 2, ← Int.mul_assoc, Int.mul_comm q 2]
  have e2 : (q + 1) * 2 ^ (w + 1) = q * 2 ^ (w + 1) + 2 * 2 ^ w := by
    rw [Int.add_mul, Int.one_mul, Int.pow_succ, Int.mul_comm (2 ^ w) 2]
  by_cases z : q * 2 ^ (w + 1) < Z
  · have g := gap hq hZ z
    exact ⟨⟨fun k => absurd (C.Ld k g) h2', fun k => by omega⟩, ⟨fun _ => by omega, fun _ => C.Uu h2 g⟩⟩
  · exact ⟨⟨fun _ => by omega, fun _ => C.Ld h1 (by omega)⟩, ⟨fun k => absurd (C.Uu k (by omega)) h1', fun k => by omega⟩⟩
theorem stands_sg {p : Nat} {C C0 : Cut} {sg Y0 : Int} (hC0 : sg = 0 → ∀ V, (C.L V ↔ C0.L V) ∧ (C.U V ↔ C0.U V)) (hC1 : sg ≠ 0 → ∀ V, (C.L V ↔ C0.U (-V)) ∧ (C.U V ↔ C0.L (-V)))
    (h : ∀ Z, Fits (p + 1) Z → (C0.L Z ↔ Z ≤ Y0) ∧ (C0.U Z ↔ Y0 ≤ Z)) : ∀ Z, Fits (p + 1) Z → (C.L Z ↔ Z ≤ sv sg Y0) ∧ (C.U Z ↔ sv sg Y0 ≤ Z) := by
  intro Z hZ
  by_cases z : sg = 0
  · have := h Z hZ
    rw [(hC0 z Z).1, (hC0 z Z).2, z, sv_0]
    exact this
  · have k := h (-Z) hZ.neg
    have e : sv sg Y0 = -Y0 := by unfold sv; rw [if_neg z]
    rw [(hC1 z Z).1, (hC1 z Z).2, e, k.1, k.2]
    constructor <;> omega
theorem divc_sg {N0 D : Int} (hD : 0 < D) (sg : Int) : (sg = 0 → ∀ V, ((divc (sv sg N0) D hD).L V ↔ (divc N0 D hD).L V) ∧ ((divc (sv sg N0) D hD).U V ↔ (divc N0 D hD).U V)) ∧ (sg ≠ 0 → ∀ V, ((divc (sv sg N0) D hD).L V ↔ (divc N0 D hD).U (-V)) ∧ ((divc (sv sg N0) D hD).U V ↔ (divc N0 D hD).L (-V))) := by
  refine ⟨fun z V => ?_, fun z V => ?_⟩
  · rw [z, sv_0]; exact ⟨Iff.rfl, Iff.rfl⟩
  · have e : sv sg N0 = -N0 := by unfold sv; rw [if_neg z]
    show (V * D ≤ sv sg N0 ↔ N0 ≤ (-V) * D) ∧ (sv sg N0 ≤ V * D ↔ (-V) * D ≤ N0)
    rw [e, Int.neg_mul]
    constructor <;> omega
theorem div_stands {p : Nat} {sm tm q rem sg N D : Int} {ex a b wd : Nat} (hD : 0 < D) (hN : N = sv sg (sm * 2 ^ a)) (hDe : D = tm * 2 ^ b) (ht : 0 < tm) (e : q * tm + rem = sm * 2 ^ ex) (hr : 0 ≤ rem) (hr2 : rem < tm) (hw : wd + b + ex = a) :
    (rem = 0 → ∀ Z, Fits (p + 1) Z → ((divc N D hD).L Z ↔ Z ≤ sv sg (q * 2 ^ wd)) ∧ ((divc N D hD).U Z ↔ sv sg (q * 2 ^ wd) ≤ Z)) ∧
    (∀ w, wd = w + 1 → 2 ^ (p + 1) ≤ 2 * q → rem ≠ 0 → ∀ Z, Fits (p + 1) Z → ((divc N D hD).L Z ↔ Z ≤ sv sg ((2 * q + 1) * 2 ^ w)) ∧ ((divc N D hD).U Z ↔ sv sg ((2 * q + 1) * 2 ^ w) ≤ Z)) := by
  subst hN
  subst hDe
  have hk := pow_pos2 (wd + b)
  have eN : sm * 2 ^ a = (q * tm + rem) * 2 ^ (wd + b) := by rw [e, ← hw, pow_add2 (wd + b) ex, Int.mul_assoc, Int.mul_comm (2 ^ ex)]
  have eq1 : ∀ c : Int, (c * 2 ^ wd) * (tm * 2 ^ b) = (c * tm) * 2 ^ (wd + b) := fun c => by
    rw [pow_add2]
    simp only [Int.mul_assoc, Int.mul_left_comm]
  refine ⟨fun z => ?_, fun w hw hq z => ?_⟩
  · refine stands_sg (divc_sg hD sg).1 (divc_sg hD sg).2 fun Z _ => ?_
    have eN' : sm * 2 ^ a = (q * 2 ^ wd) * (tm * 2 ^ b) := by rw [eN, z, Int.add_zero, eq1]
    show (Z * (tm * 2 ^ b) ≤ sm * 2 ^ a ↔ _) ∧ (sm * 2 ^ a ≤ Z * (tm * 2 ^ b) ↔ _)
    rw [eN']
    exact ⟨⟨fun k => Int.le_of_mul_le_mul_right k hD, fun k => Int.mul_le_mul_of_nonneg_right k (Int.le_of_lt hD)⟩, ⟨fun k => Int.le_of_mul_le_mul_right k hD, fun k => Int.mul_le_mul_of_nonneg_right k (Int.le_of_lt hD)⟩⟩
  · refine stands_sg (divc_sg hD sg).1 (divc_sg hD sg).2 ?_
    subst hw
    have l1 : q * tm * 2 ^ (w + 1 + b) < (q * tm + rem) * 2 ^ (w + 1 + b) := Int.mul_lt_mul_of_pos_right (by omega) hk
    have l2 : (q * tm + rem) * 2 ^ (w + 1 + b) < (q + 1) * tm * 2 ^ (w + 1 + b) := Int.mul_lt_mul_of_pos_right (by rw [Int.add_mul, Int.one_mul]; omega) hk
    refine sticky hq ?_ ?_ ?_ ?_
    · show q * 2 ^ (w + 1) * (tm * 2 ^ b) ≤ sm * 2 ^ a
      rw [eq1, eN]; omega
    · show ¬ sm * 2 ^ a ≤ q * 2 ^ (w + 1) * (tm * 2 ^ b)
      rw [eq1, eN]; omega
    · show sm * 2 ^ a ≤ (q + 1) * 2 ^ (w + 1) * (tm * 2 ^ b)
      rw [eq1, eN]; omega
    · show ¬ (q + 1) * 2 ^ (w + 1) * (tm * 2 ^ b) ≤ sm * 2 ^ a
      rw [eq1, eN]; omega
theorem quot_big {sm tm q rem : Int} {p ex : Nat} (hs : 0 < sm) (ht : 0 < tm) (e : q * tm + rem = sm * 2 ^ ex) (hr2 : rem < tm) (hx : p + Builtin.Int.intBits tm + 1 ≤ Builtin.Int.intBits sm + ex) : 2 ^ p ≤ q := by
  by_cases z : 2 ^ p ≤ q
  · exact z
  · exfalso
    have hp := pow_pos2 p
    have g1 := bits_ge hs
    have g2 := bits_lt (x := tm) (by omega)
    have hx2 : (2 : Int) ^ (p + Builtin.Int.intBits tm + 1) ≤ 2 ^ (Builtin.Int.intBits sm + ex) := pow_le2 hx
    have k1 : (2 : Int) ^ (Builtin.Int.intBits sm) * 2 ^ ex ≤ (2 * sm) * 2 ^ ex := Int.mul_le_mul_of_nonneg_right g1 (by have := pow_pos2 ex; omega)
    have k2 : (q + 1) * tm ≤ 2 ^ p * tm := Int.mul_le_mul_of_nonneg_right (by omega) (by omega)
    have k3 : (2 : Int) ^ p * tm ≤ 2 ^ p * 2 ^ Builtin.Int.intBits tm := Int.mul_le_mul_of_nonneg_left (by omega) (by omega)
    rw [Int.pow_succ, pow_add2, pow_add2] at hx2
    rw [Int.add_mul, Int.one_mul] at k2
    rw [Int.mul_assoc] at k1
    omega
theorem log2_small {x : Int} (h : Builtin.Int.intBits x ≤ 1000) (h0 : x ≠ 0) : x.natAbs.log2 < 9000 := by
  have := PySem.intBits_le_iff.mp h
  have := (Nat.log2_lt (n := x.natAbs) (k := 1000) (by omega)).mpr this
  omega

section
variable {W : Wd} {P : Params} {E1 E2 X Y : Int} {s t : D} {sg sm se tg tm te : Int} {p : Nat} {m : Mode}
abbrev GoodC (E : Int) (C : Cut) (p : Nat) (m : Mode) (d : D) : Prop := ∃ r, Is E r d ∧ Rnd p C r m
/-- a quotient of whole numbers, the end -/
theorem quot_fin (H : Here W P) {E3 e3 sg' q rem N D : Int} {ex a b : Nat} (hD : 0 < D) (hN : N = sv sg' (sm * 2 ^ a)) (hDe : D = tm * 2 ^ b) (hsg : sg' = 0 ∨ sg' = 1) (hs : 0 < sm) (ht : 0 < tm) (e : q * tm + rem = sm * 2 ^ ex) (hr : 0 ≤ rem) (hr2 : rem < tm)
    (hb1 : Builtin.Int.intBits sm ≤ 1000) (hex : ex ≤ 4000) (hp : 1 ≤ p) (hx : p + Builtin.Int.intBits tm + 1 ≤ Builtin.Int.intBits sm + ex) (hw : e3 + E3 + b + ex = a) (hw2 : 2 ≤ e3 + E3) :
    (rem = 0 → ∃ d, Ok W 3 ("normalize" : Str) [.int sg', .int q, .int e3, .int (Builtin.Int.intBits q), .int p, .str (mch m)] d ∧ GoodC E3 (divc N D hD) p m d) ∧
    (rem ≠ 0 → ∃ d, Ok W 3 ("normalize" : Str) [.int sg', .int (2 * q + 1), .int (e3 - 1), .int (Builtin.Int.intBits (2 * q + 1)), .int p, .str (mch m)] d ∧ GoodC E3 (divc N D hD) p m d) := by
  have hq := quot_big hs ht e hr2 hx
  have hpp := pow_pos2 p
  have hq2 : (2 : Int) ^ (p + 1) ≤ 2 * q := by rw [Int.pow_succ]; omega
  have hqb : Builtin.Int.intBits q ≤ 5000 := by
    have h1 : Builtin.Int.intBits q ≤ Builtin.Int.intBits (sm * 2 ^ ex) := by
      refine bits_mono ?_
      have : q * 1 ≤ q * tm := Int.mul_le_mul_of_nonneg_left (by omega) (by omega)
      omega
    have := bits_mul_le (x := sm) (k := ex)
    omega
  have hst := div_stands (p := p) (wd := (e3 + E3).toNat) hD hN hDe ht e hr hr2 (by omega)
  refine ⟨fun z => ?_, fun z => ?_⟩
  · obtain ⟨d, h1, r, h2, h3⟩ := nz (m := m) (E := E3) (exp := e3) H hsg (show 0 ≤ q by omega) hp (by omega) (by omega) rfl
    refine ⟨d, h1, r, h2, Rnd.stands (hst.1 z) ?_⟩
    rw [← sv_mul]; exact h3
  · have hb := bits_add (a := q + q) (b := 1) (k := 5001) (bits_add hqb hqb) (by decide)
    rw [← Int.two_mul] at hb
    obtain ⟨d, h1, r, h2, h3⟩ := nz (m := m) (E := E3) (exp := e3 - 1) H hsg (show 0 ≤ 2 * q + 1 by omega) hp (by omega) (by omega) rfl
    refine ⟨d, h1, r, h2, Rnd.stands (hst.2 (e3 - 1 + E3).toNat (by omega) hq2 z) ?_⟩
    rw [← sv_mul]; exact h3

theorem zero_cut {N D : Int} (hD : 0 < D) (h : N = 0) : Rnd p (divc N D hD) 0 m := by
  refine Rnd.stands (y := 0) (fun Z _ => ?_) (Rnd.ex (Fits.zero p) m)
  subst h
  show (Z * D ≤ 0 ↔ _) ∧ (0 ≤ Z * D ↔ _)
  refine ⟨⟨fun k => ?_, fun k => Int.mul_nonpos_of_nonpos_of_nonneg k (Int.le_of_lt hD)⟩, ⟨fun k => ?_, fun k => Int.mul_nonneg k (Int.le_of_lt hD)⟩⟩
  · by_cases z : Z ≤ 0
    · exact z
    · have := Int.mul_pos (a := Z) (by omega) hD; omega
  · by_cases z : 0 ≤ Z
    · exact z
    · have := Int.mul_neg_of_neg_of_pos (a := Z) (by omega) hD; omega
end
end Mine

end

section
open PySem PySem.Calls
set_option maxRecDepth 100000
set_option linter.unusedVariables false
set_option linter.unusedSimpArgs false
namespace Mine
local macro_rules
  | `(tactic| ktr_unf) => `(tactic| simp only [wpT, wpE, wpEs, wpTr, truthD, wpBin, optP, cmpD, itemD, eq4, setAll, List.map_cons, List.map_nil, List.reverse_cons, List.reverse_nil, List.nil_append, List.cons_append, List.getElem?_cons_zero, List.getElem?_cons_succ, List.set_cons_zero, List.set_cons_succ, Option.some.injEq, PyData.int.injEq, PyData.bool.injEq, PyData.tuple.injEq, PyData.str.injEq, decide_eq_true_eq, Bool.not_eq_true', decide_eq_false_iff_not, num])
local macro_rules
  | `(tactic| ktr_rel) => `(tactic| (simp only [setAll, List.reverse_cons, List.reverse_nil, List.nil_append, List.cons_append, List.set_cons_zero, List.set_cons_succ]; rfl))

theorem quot_bits {sm tm q rem : Int} {ex : Nat} (hs : 0 < sm) (ht : 0 < tm) (e : q * tm + rem = sm * 2 ^ ex) (hr : 0 ≤ rem) (hr2 : rem < tm) : Builtin.Int.intBits q ≤ Builtin.Int.intBits sm + ex := by
  refine Nat.le_trans (bits_mono ?_) (bits_mul_le (x := sm) (k := ex))
  have hpos := Int.mul_pos hs (pow_pos2 ex)
  by_cases z : 0 ≤ q
  · have : q * 1 ≤ q * tm := Int.mul_le_mul_of_nonneg_left (by omega) z
    omega
  · have : (q + 1) * tm ≤ 0 := Int.mul_nonpos_of_nonpos_of_nonneg (by omega) (by omega)
    rw [Int.add_mul, Int.one_mul] at this
    omega
section
variable {W : Wd} {P : Params} {E1 E2 X Y : Int} {s t : D} {sg sm se tg tm te : Int} {p : Nat} {m : Mode}
theorem div_parts (ks : Pt E1 X s sg sm se) (kt : Pt E2 Y t tg tm te) (htm : tm ≠ 0) (J : Nat) :
    (if 0 < Y then X * 2 ^ J else -(X * 2 ^ J)) = sv (xr sg tg) (sm * 2 ^ ((se + E1).toNat + J)) ∧ (if 0 < Y then Y else -Y) = tm * 2 ^ (te + E2).toNat := by
  have ht : 0 < tm := by have := kt.hman; omega
  have hk := pow_pos2 (te + E2).toNat
  have hpos := Int.mul_pos ht hk
  have e1 : X * 2 ^ J = sv sg (sm * 2 ^ ((se + E1).toNat + J)) := by rw [ks.hX, Int.mul_assoc, ← pow_add2, sv_mul]
  rw [e1]
  have hxr := sv_xr (x := sm * 2 ^ ((se + E1).toNat + J)) (y := 1) ks.hsg kt.hsg
  rw [Int.mul_one] at hxr
  rw [hxr]
  rcases kt.hsg with h | h
  · have hY : Y = tm * 2 ^ (te + E2).toNat := by rw [kt.hX, h, sv_0]
    rw [if_pos (by omega), if_pos (by omega), h, sv_0, Int.mul_one]
    exact ⟨rfl, hY⟩
  · have hY : Y = -(tm * 2 ^ (te + E2).toNat) := by rw [kt.hX, h, sv_1, Int.neg_mul]
    rw [if_neg (by omega), if_neg (by omega), h, sv_1]
    exact ⟨by omega, by omega⟩

theorem mpf_div_ok (H : Here W P) (ks : Pt E1 X s sg sm se) (kt : Pt E2 Y t tg tm te) (htm : tm ≠ 0) (hp : 1 ≤ p) (hp2 : p ≤ 1000) (hb1 : Builtin.Int.intBits sm ≤ 1000) (hb2 : Builtin.Int.intBits tm ≤ 1000) (J : Nat) (hJ : 3000 ≤ se - te + (E1 - E2 + J)) (hE3 : 1 ≤ E1 - E2 + J)
    {N Dn : Int} (hD : 0 < Dn) (hN : N = if 0 < Y then X * 2 ^ J else -(X * 2 ^ J)) (hDe : Dn = if 0 < Y then Y else -Y) :
    ∃ d, Ok W 4 ("mpf_div" : Str) [s, t, .int p, .str (mch m)] d ∧ GoodC (E1 - E2 + J) (divc N Dn hD) p m d := by
  refine fn_ex H 4 (k_mpf_div P) (by kernel_rfl) (bnd_mpf_div_4 H.K _ _ _ _) rfl (by decide) ?_
  show wpSs _ [some s, some t, some (.int p), some (.str (mch m)), none, none, none, none, none, none, none, none, none, none, none, none, none, none, none] b_mpf_div _ _
  have hk := div_parts ks kt htm J
  rw [hk.1] at hN
  rw [hk.2] at hDe
  have h1 := ks.hexp
  have h2 := kt.hexp
  have ht : 0 < tm := by have := kt.hman; omega
  rw [ks.hd, kt.hd]
  unfold b_mpf_div
  refine st_asgT (ds := [.int sg, .int sm, .int se, .int (Builtin.Int.intBits sm)]) (by ktr_unf) (by ktr_rel) ?_
  refine st_asgT (ds := [.int tg, .int tm, .int te, .int (Builtin.Int.intBits tm)]) (by ktr_unf) (by ktr_rel) ?_
  refine st_ite (C := sm = 0) (t_iff (t_or (t_not (t_int (x := sm) (by ktr_unf))) fun _ => t_not (t_int (x := tm) (by ktr_unf))) (by simp [htm])) (fun z => ?_) (fun z => st_nil ?_)
  · obtain ⟨z1, z2⟩ := ks.hz z
    refine st_ite (C := True) (t_iff (t_cmp (a := num sg sm se (Builtin.Int.intBits sm)) (b := num 0 0 0 0) (by ktr_unf) (by ktr_unf) rfl Iff.rfl) (by simp [z, z1, z2, bits_zero])) (fun _ => ?_) (fun z => absurd trivial z)
    refine st_ite (C := False) (t_iff (t_cmp (a := num tg tm te (Builtin.Int.intBits tm)) (b := num 0 0 0 0) (by ktr_unf) (by ktr_unf) rfl Iff.rfl) (by simp [htm])) (fun z => z.elim) (fun _ => st_nil ?_)
    refine st_ite (C := False) (t_iff (t_cmp (a := num tg tm te (Builtin.Int.intBits tm)) (b := num 0 0 (-123) (-1)) (by ktr_unf) (by ktr_unf) rfl Iff.rfl) (by simp [htm])) (fun z => z.elim) (fun _ => st_nil ?_)
    refine st_ret ?_
    ktr_unf
    refine ⟨0, .inl ⟨rfl, rfl⟩, zero_cut hD ?_⟩
    rw [hN, z, Int.zero_mul]; unfold sv; simp
  have hs : 0 < sm := by have := ks.hman; omega
  refine st_asg (x := .int (xr sg tg)) (by ktr_unf; exact xr_ok ks.hsg kt.hsg) (by ktr_rel) ?_
  refine st_ite (C := tm = 1) (by ktr_unf) (fun z1 => ?_) (fun z1 => st_nil ?_)
  · have hst := (div_stands (p := p) (wd := (se - te + (E1 - E2 + J)).toNat) (q := sm) (rem := 0) (ex := 0) hD hN hDe ht (by rw [z1]; simp) (by omega) (by omega) (by omega)).1 rfl
    obtain ⟨d, q1, r, q2, q3⟩ := nz (m := m) (E := E1 - E2 + J) (exp := se - te) H (xr_sg sg tg) ks.hman hp (by omega) (by omega) rfl
    refine st_ret (e_callx (ds := [.int (xr sg tg), .int sm, .int (se - te), .int (Builtin.Int.intBits sm), .int p, .str (mch m)]) (by ktr_unf) ⟨d, q1, r, q2, Rnd.stands hst ?_⟩)
    rw [← sv_mul]; exact q3
  have rest : ∀ ex : Nat, p + Builtin.Int.intBits tm + 5 ≤ Builtin.Int.intBits sm + ex → ex ≤ 2900 → wpSs (Ok W 3) [some (num sg sm se (Builtin.Int.intBits sm)), some (num tg tm te (Builtin.Int.intBits tm)), some (.int p), some (.str (mch m)), some (.int (xr sg tg)), none, some (.int sg), some (.int sm), some (.int se), some (.int (Builtin.Int.intBits sm)), some (.int tg), some (.int tm), some (.int te), some (.int (Builtin.Int.intBits tm)), none, none, some (.int ex), none, none]
      (b_mpf_div.drop 7) (fun _ => False) (GoodC (E1 - E2 + J) (divc N Dn hD) p m) := by
    intro ex hx hx2
    show wpSs _ _ [MS.asgT _ _, MS.ite _ _ _, MS.asg _ _, MS.ret _] _ _
    have e : (sm * 2 ^ ex).fdiv tm * tm + (sm * 2 ^ ex).fmod tm = sm * 2 ^ ex := by rw [Int.mul_comm]; exact Int.mul_fdiv_add_fmod _ _
    have hr : 0 ≤ (sm * 2 ^ ex).fmod tm := Int.fmod_nonneg_of_pos _ ht
    have hr2 : (sm * 2 ^ ex).fmod tm < tm := Int.fmod_lt_of_pos _ ht
    have fin := quot_fin (m := m) (E3 := E1 - E2 + J) (e3 := se - te - ex) H hD hN hDe (xr_sg sg tg) hs ht e hr hr2 hb1 (by omega) hp (by omega) (by omega) (by omega)
    have hbs := bits_mul_le (x := sm) (k := ex)
    have hqb := quot_bits hs ht e hr hr2
    have e9 : se - te - (ex : Int) - 1 = se - te - (ex + 1) := by omega
    rw [e9] at fin
    obtain ⟨q, hq⟩ : ∃ q, q = (sm * 2 ^ ex).fdiv tm := ⟨_, rfl⟩
    obtain ⟨rem, hrem⟩ : ∃ rem, rem = (sm * 2 ^ ex).fmod tm := ⟨_, rfl⟩
    rw [← hq, ← hrem] at fin
    rw [← hq] at hqb
    refine st_asgT (ds := [.int q, .int rem]) ?_ (by ktr_rel) ?_
    · ktr_unf
      rw [Int.toNat_natCast, hq, hrem]
      exact ⟨⟨by omega, by omega⟩, ⟨htm, log2_small hb2 htm⟩, rfl⟩
    have last : ∀ (q' e3' : Int) (ex' : Int) (o18 : Option D), se - te - ex' = e3' → (∃ d, Ok W 3 ("normalize" : Str) [.int (xr sg tg), .int q', .int e3', .int (Builtin.Int.intBits q'), .int p, .str (mch m)] d ∧ GoodC (E1 - E2 + J) (divc N Dn hD) p m d) → wpSs (Ok W 3) [some (num sg sm se (Builtin.Int.intBits sm)), some (num tg tm te (Builtin.Int.intBits tm)), some (.int p), some (.str (mch m)), some (.int (xr sg tg)), none, some (.int sg), some (.int sm), some (.int se), some (.int (Builtin.Int.intBits sm)), some (.int tg), some (.int tm), some (.int te), some (.int (Builtin.Int.intBits tm)), none, none, some (.int ex'), some (.int q'), o18]
        (b_mpf_div.drop 9) (fun _ => False) (GoodC (E1 - E2 + J) (divc N Dn hD) p m) := by
      intro q' e3' ex' o18 he hd
      show wpSs _ _ [MS.asg _ _, MS.ret _] _ _
      refine st_asg (x := .int (Builtin.Int.intBits q')) (by ktr_unf) (by ktr_rel) ?_
      refine st_ret (e_callx (ds := [.int (xr sg tg), .int q', .int e3', .int (Builtin.Int.intBits q'), .int p, .str (mch m)]) ?_ hd)
      exact es_cons (x := .int (xr sg tg)) (by ktr_unf) (es_cons (x := .int q') (by ktr_unf) (es_cons (x := .int e3') (by ktr_unf; exact he) (es_cons (x := .int (Builtin.Int.intBits q')) (by ktr_unf) (es_cons (x := .int p) (wpE_or (x := p) (by ktr_unf) (by omega) rfl) (es_cons (x := .str (mch m)) (by ktr_unf) (es_nil rfl))))))
    refine st_ite (C := rem ≠ 0) (t_int (by ktr_unf)) (fun z2 => ?_) (fun z2 => st_nil (last _ _ _ _ rfl (fin.1 (by omega))))
    refine st_asg (x := .int (2 * q + 1)) ?_ (by ktr_rel) ?_
    · ktr_unf
      exact ⟨⟨by omega, by omega⟩, by show q * 2 ^ 1 + 1 = _; omega⟩
    refine st_aug (y := .int ex) (z := .int 1) (x := .int (ex + 1)) rfl (by ktr_unf) rfl (by ktr_rel) (st_nil ?_)
    exact last _ _ _ _ rfl (fin.2 z2)
  refine st_ite (C := False) (t_iff (t_not (t_int (x := p) (by ktr_unf))) (by simp; omega)) (fun z => z.elim) (fun _ => ?_)
  refine st_asg (x := .int ((p : Int) - Builtin.Int.intBits sm + Builtin.Int.intBits tm + 5)) (by ktr_unf) (by ktr_rel) (st_nil ?_)
  refine st_ite (C := (p : Int) - Builtin.Int.intBits sm + Builtin.Int.intBits tm + 5 < 5) (by ktr_unf) (fun z2 => ?_) (fun z2 => st_nil ?_)
  · exact st_asg (x := .int ((5 : Nat) : Int)) (by ktr_unf; rfl) (by ktr_rel) (st_nil (rest 5 (by omega) (by omega)))
  · obtain ⟨ex, hex⟩ : ∃ ex : Nat, (p : Int) - Builtin.Int.intBits sm + Builtin.Int.intBits tm + 5 = ex := ⟨((p : Int) - Builtin.Int.intBits sm + Builtin.Int.intBits tm + 5).toNat, by omega⟩
    rw [hex]
    exact rest ex (by omega) (by omega)

theorem mpf_rdiv_int_ok (H : Here W P) (n : Int) (kt : Pt E2 Y t tg tm te) (htm : tm ≠ 0) (hp : 1 ≤ p) (hp2 : p ≤ 1000) (hb1 : Builtin.Int.intBits n ≤ 1000) (hb2 : Builtin.Int.intBits tm ≤ 1000) (J : Nat) (hJ : 3000 ≤ -te + (J - E2)) (hJ2 : 1 ≤ (J : Int) - E2) (hJ3 : 1 ≤ J)
    {N Dn : Int} (hD : 0 < Dn) (hN : N = if 0 < Y then n * 2 ^ J else -(n * 2 ^ J)) (hDe : Dn = if 0 < Y then Y else -Y) :
    ∃ d, Ok W 5 ("mpf_rdiv_int" : Str) [.int n, t, .int p, .str (mch m)] d ∧ GoodC (J - E2) (divc N Dn hD) p m d := by
  refine fn_ex H 4 (k_mpf_rdiv_int P) (by kernel_rfl) (bnd_mpf_rdiv_int_4 H.K _ _ _ _) rfl (by decide) ?_
  show wpSs _ [some (.int n), some t, some (.int p), some (.str (mch m)), none, none, none, none, none, none, none] b_mpf_rdiv_int _ _
  have h2 := kt.hexp
  have ht : 0 < tm := by have := kt.hman; omega
  have hkp := pow_pos2 (te + E2).toNat
  have hpos := Int.mul_pos ht hkp
  have hDe' : Dn = tm * 2 ^ (te + E2).toNat := by
    rw [hDe, kt.hX]
    rcases kt.hsg with h | h
    · rw [h, sv_0, if_pos hpos]
    · rw [h, sv_1, Int.neg_mul, if_neg (by omega)]; omega
  have hY0 : 0 < Y ↔ tg = 0 := by
    rw [kt.hX]
    rcases kt.hsg with h | h
    · rw [h, sv_0]; simp [hpos]
    · rw [h, sv_1, Int.neg_mul]; simp; omega
  rw [kt.hd]
  unfold b_mpf_rdiv_int
  refine st_asgT (ds := [.int tg, .int tm, .int te, .int (Builtin.Int.intBits tm)]) (by ktr_unf) (by ktr_rel) ?_
  refine st_ite (C := n = 0) (t_iff (t_or (t_not (t_int (x := n) (by ktr_unf))) fun _ => t_not (t_int (x := tm) (by ktr_unf))) (by simp [htm])) (fun z => ?_) (fun z => st_nil ?_)
  · obtain ⟨dn, q1, q2⟩ := from_int_ok H n
    have k0 : Is 1 0 dn := by
      have := q2 1 (by omega)
      rw [z, Int.zero_mul] at this
      exact this
    have k1 : Pt 1 0 dn 0 0 0 := by
      rcases k0 with ⟨_, k0⟩ | ⟨a, b, c, _, _, h5, _, _, h6⟩
      · exact ⟨k0, .inl rfl, by omega, by omega, by unfold sv; simp, fun _ => ⟨rfl, rfl⟩, fun h => absurd rfl h⟩
      · exact absurd h6.symm (Int.mul_ne_zero (sv_ne h5) (Int.ne_of_gt (pow_pos2 _)))
    obtain ⟨d, q3, q4⟩ := mpf_div_ok (m := m) H k1 kt htm hp hp2 (by decide) hb2 (J + E2.natAbs + 1) (by omega) (by omega) (N := 0) hD (by simp) hDe
    refine st_ret (e_callx (ds := [dn, num tg tm te (Builtin.Int.intBits tm), .int p, .str (mch m)]) ?_ ⟨d, kt.hd ▸ q3, 0, ?_, ?_⟩)
    · exact es_cons (e_call (ds := [.int n]) (by ktr_unf) (q1.more (by omega)) rfl) (es_cons (x := num tg tm te (Builtin.Int.intBits tm)) (by ktr_unf) (es_cons (x := .int p) (by ktr_unf) (es_cons (x := .str (mch m)) (by ktr_unf) (es_nil rfl))))
    · obtain ⟨r, h1, h3⟩ := q4
      have e0 : r = 0 := h3.uniq (zero_cut hD rfl)
      rw [e0] at h1
      rcases h1 with ⟨_, h1⟩ | ⟨a, b, c, _, _, h5, _, _, h6⟩
      · exact .inl ⟨rfl, h1⟩
      · exact absurd h6.symm (Int.mul_ne_zero (sv_ne h5) (Int.ne_of_gt (pow_pos2 _)))
    · exact zero_cut hD (by rw [hN, z]; simp)
  have rest : ∀ (sg' n' : Int), (sg' = 0 ∨ sg' = 1) → 0 < n' → Builtin.Int.intBits n' ≤ 1000 → N = sv sg' (n' * 2 ^ J) → wpSs (Ok W 4) [some (.int n'), some (num tg tm te (Builtin.Int.intBits tm)), some (.int p), some (.str (mch m)), none, some (.int sg'), some (.int tm), some (.int te), some (.int (Builtin.Int.intBits tm)), none, none] (b_mpf_rdiv_int.drop 3) (fun _ => False) (GoodC (J - E2) (divc N Dn hD) p m) := by
    intro sg n' hsg hs hbn hNN
    show wpSs _ _ [MS.asg _ _, MS.asgT _ _, MS.ite _ _ _, MS.ret _] _ _
    have hb0 := bits_pos hs
    obtain ⟨ex, hex⟩ : ∃ ex : Nat, ex = p + Builtin.Int.intBits tm + 5 := ⟨_, rfl⟩
    refine st_asg (x := .int ex) (by ktr_unf; omega) (by ktr_rel) ?_
    have e : (n' * 2 ^ ex).fdiv tm * tm + (n' * 2 ^ ex).fmod tm = n' * 2 ^ ex := by rw [Int.mul_comm]; exact Int.mul_fdiv_add_fmod _ _
    have hr : 0 ≤ (n' * 2 ^ ex).fmod tm := Int.fmod_nonneg_of_pos _ ht
    have hr2 : (n' * 2 ^ ex).fmod tm < tm := Int.fmod_lt_of_pos _ ht
    have fin := quot_fin (m := m) (E3 := J - E2) (e3 := -te - ex) H hD hNN hDe' hsg hs ht e hr hr2 hbn (by omega) hp (by omega) (by omega) (by omega)
    have hqb := quot_bits hs ht e hr hr2
    have e9 : -te - (ex : Int) - 1 = -te - (ex + 1) := by omega
    rw [e9] at fin
    obtain ⟨q, hq⟩ : ∃ q, q = (n' * 2 ^ ex).fdiv tm := ⟨_, rfl⟩
    obtain ⟨rem, hrem⟩ : ∃ rem, rem = (n' * 2 ^ ex).fmod tm := ⟨_, rfl⟩
    rw [← hq, ← hrem] at fin
    rw [← hq] at hqb
    refine st_asgT (ds := [.int q, .int rem]) ?_ (by ktr_rel) ?_
    · ktr_unf
      rw [Int.toNat_natCast, hq, hrem]
      exact ⟨⟨by omega, by omega⟩, ⟨htm, log2_small hb2 htm⟩, rfl⟩
    refine st_ite (C := rem ≠ 0) (t_int (by ktr_unf)) (fun z2 => ?_) (fun z2 => st_nil (st_ret ?_))
    · obtain ⟨d, f1, f2⟩ := fin.2 z2
      refine st_asg (x := .int (2 * q + 1)) ?_ (by ktr_rel) ?_
      · ktr_unf
        exact ⟨⟨by omega, by omega⟩, by show q * 2 ^ 1 + 1 = _; omega⟩
      refine st_aug (y := .int ex) (z := .int 1) (x := .int (ex + 1)) rfl (by ktr_unf) rfl (by ktr_rel) (st_ret ?_)
      exact e_callx (ds := [.int sg, .int (2 * q + 1), .int (-te - (ex + 1)), .int (Builtin.Int.intBits (2 * q + 1)), .int p, .str (mch m)]) (by ktr_unf) ⟨d, f1.more (by omega), f2⟩
    · obtain ⟨d, f1, f2⟩ := fin.1 (by omega)
      exact e_callx (ds := [.int sg, .int q, .int (-te - ex), .int (Builtin.Int.intBits q), .int p, .str (mch m)]) (by ktr_unf) ⟨d, f1.more (by omega), f2⟩
  refine st_ite (C := n < 0) (by ktr_unf) (fun z1 => ?_) (fun z1 => st_nil (rest tg n kt.hsg (by omega) hb1 ?_))
  · refine st_aug (y := .int tg) (z := .int 1) (x := .int (xr tg 1)) rfl (by ktr_unf) (by show PyData.int _ = _; rw [xr_ok kt.hsg (.inr rfl)]) (by ktr_rel) ?_
    refine st_asg (x := .int (-n)) (by ktr_unf) (by ktr_rel) (st_nil ?_)
    refine rest (xr tg 1) (-n) (xr_sg _ _) (by omega) (by rw [intBits_neg]; exact hb1) ?_
    rw [hN]
    rcases kt.hsg with h | h
    · rw [if_pos (hY0.mpr h), h, show xr 0 1 = 1 from rfl, sv_1, Int.neg_mul, Int.neg_neg]
    · rw [if_neg (fun q => by have := hY0.mp q; omega), h, show xr 1 1 = 0 from rfl, sv_0, Int.neg_mul]
  · rw [hN]
    rcases kt.hsg with h | h
    · rw [if_pos (hY0.mpr h), h, sv_0]
    · rw [if_neg (fun q => by have := hY0.mp q; omega), h, sv_1]
end
end Mine

end

section
open PySem PySem.Calls
set_option maxRecDepth 100000
set_option linter.unusedVariables false
set_option linter.unusedSimpArgs false
namespace Mine
local macro_rules
  | `(tactic| ktr_unf) => `(tactic| simp only [wpT, wpE, wpEs, wpTr, truthD, wpBin, optP, cmpD, itemD, eq4, setAll, List.map_cons, List.map_nil, List.reverse_cons, List.reverse_nil, List.nil_append, List.cons_append, List.getElem?_cons_zero, List.getElem?_cons_succ, List.set_cons_zero, List.set_cons_succ, Option.some.injEq, PyData.int.injEq, PyData.bool.injEq, PyData.tuple.injEq, PyData.str.injEq, decide_eq_true_eq, Bool.not_eq_true', decide_eq_false_iff_not, num])
local macro_rules
  | `(tactic| ktr_rel) => `(tactic| (simp only [setAll, List.reverse_cons, List.reverse_nil, List.nil_append, List.cons_append, List.set_cons_zero, List.set_cons_succ]; rfl))

theorem sq_mono {a b : Int} (h0 : 0 ≤ a) (h : a ≤ b) : a * a ≤ b * b :=
  Int.le_trans (Int.mul_le_mul_of_nonneg_right h h0) (Int.mul_le_mul_of_nonneg_left h (by omega))
theorem sq_le {a b : Int} (hb : 0 ≤ b) (h : a * a ≤ b * b) : a ≤ b := by
  by_cases z : a ≤ b
  · exact z
  · exfalso
    have h1 := sq_mono (a := b + 1) (b := a) (by omega) (by omega)
    rw [Int.add_mul, Int.mul_add, Int.mul_one, Int.one_mul] at h1
    omega
/-- the cut of a square root -/
def sqc (S : Int) (hS : 0 ≤ S) : Cut where
  L V := V ≤ 0 ∨ V * V ≤ S
  U V := 0 ≤ V ∧ S ≤ V * V
  tot V := by omega
  sep := fun {X Y} h k => by
    rcases h with h | h
    · omega
    · exact sq_le k.1 (by omega)
  Ld := fun {X Y} h k => by
    rcases h with h | h
    · left; omega
    · by_cases z : Y ≤ 0
      · exact .inl z
      · right
        have := sq_mono (a := Y) (b := X) (by omega) k
        omega
  Uu := fun {X Y} h k => ⟨by omega, by have := sq_mono h.1 k; omega⟩
theorem sq_exact {p : Nat} {S y : Int} (hS : 0 ≤ S) (hy : 0 ≤ y) (e : S = y * y) : ∀ Z, Fits (p + 1) Z → ((sqc S hS).L Z ↔ Z ≤ y) ∧ ((sqc S hS).U Z ↔ y ≤ Z) := by
  intro Z _
  subst e
  refine ⟨⟨fun h => h.elim (fun h => by omega) (fun h => sq_le hy h), fun h => ?_⟩, ⟨fun h => sq_le h.1 h.2, fun h => ⟨by omega, sq_mono hy h⟩⟩⟩
  by_cases z : Z ≤ 0
  · exact .inl z
  · exact .inr (sq_mono (by omega) h)
/-- the floor, when only the floor is asked for -/
theorem floor_stands {p : Nat} {C : Cut} {y r : Int} (hs : ∀ Z, Fits (p + 1) Z → (C.L Z ↔ Z ≤ y)) (h : isFloor p (ex y) r) : isFloor p C r :=
  ⟨h.1, (hs _ (h.1.mono (Nat.le_succ _))).mpr h.2.1, fun Z hZ hL => h.2.2 Z hZ ((hs _ (hZ.mono (Nat.le_succ _))).mp hL)⟩
theorem floor_sq {p w : Nat} {C : Cut} {q : Int} (hq : 2 ^ (p + 1) ≤ 2 * q) (h1 : C.L (q * 2 ^ w)) (h2' : ¬ C.L ((q + 1) * 2 ^ w)) : ∀ Z, Fits (p + 1) Z → (C.L Z ↔ Z ≤ q * 2 ^ w) := by
  intro Z hZ
  by_cases z : q * 2 ^ w < Z
  · have g := gap hq hZ z
    exact ⟨fun k => absurd (C.Ld k g) h2', fun k => by omega⟩
  · exact ⟨fun _ => by omega, fun _ => C.Ld h1 (by omega)⟩

/-- one step of Newton stays above the root -/
theorem newton {x r : Int} (hx : 0 ≤ x) (hr : 0 < r) : x < ((r + x / r) / 2 + 1) * ((r + x / r) / 2 + 1) := by
  have d1 := Int.emod_add_mul_ediv x r
  have d2 := Int.emod_lt_of_pos x hr
  have d3 : 0 ≤ x / r := Int.ediv_nonneg hx (by omega)
  generalize x / r = q at *
  have h1 : x < r * (q + 1) := by rw [Int.mul_add, Int.mul_one]; omega
  obtain ⟨c, hc⟩ : ∃ c, c = (r + q) / 2 + 1 := ⟨_, rfl⟩
  rw [← hc]
  have h2 : r + (q + 1) ≤ 2 * c := by omega
  have h3 := sq_mono (a := r + (q + 1)) (b := 2 * c) (by omega) h2
  have h4 : 0 ≤ (r - (q + 1)) * (r - (q + 1)) := by
    by_cases z : 0 ≤ r - (q + 1)
    · exact Int.mul_nonneg z z
    · have := Int.mul_nonneg (a := -(r - (q + 1))) (b := -(r - (q + 1))) (by omega) (by omega)
      rwa [Int.neg_mul_neg] at this
  generalize q + 1 = b at *
  have e1 : (2 * c) * (2 * c) = 4 * (c * c) := by rw [Int.mul_assoc, Int.mul_left_comm c 2 c]; omega
  have e2 : (r + b) * (r + b) = r * r + 2 * (r * b) + b * b := by rw [Int.add_mul, Int.mul_add, Int.mul_add, Int.mul_comm b r]; omega
  have e3 : (r - b) * (r - b) = r * r - 2 * (r * b) + b * b := by rw [Int.sub_mul, Int.mul_sub, Int.mul_sub, Int.mul_comm b r]; omega
  omega

theorem isqrt_small_ok {W : Wd} {P : Params} (H : Here W P) {x : Int} (h0 : 0 ≤ x) (hb : Builtin.Int.intBits x ≤ 8000) :
    ∃ d, Ok W 1 ("isqrt_small" : Str) [.int x] d ∧ ∃ r : Int, d = .int r ∧ 0 ≤ r ∧ r * r ≤ x ∧ x < (r + 1) * (r + 1) := by
  refine fn_ex H 1 (k_isqrt_small P) (by kernel_rfl) (bnd_isqrt_small_1 H.K _) rfl (by decide) ?_
  show wpSs _ [some (.int x), none, none] b_isqrt_small _ _
  unfold b_isqrt_small
  refine st_ite (C := x = 0) (t_iff (t_not (t_int (x := x) (by ktr_unf))) (by simp)) (fun z => st_ret ?_) (fun z => st_nil ?_)
  · ktr_unf
    exact ⟨x, rfl, by omega, by rw [z]; decide, by rw [z]; decide⟩
  obtain ⟨k, hk⟩ : ∃ k : Nat, (Builtin.Int.intBits x + 1) / 2 = k := ⟨_, rfl⟩
  have hkk := pow_pos2 k
  refine st_asg (x := .int (2 ^ k)) ?_ (by ktr_rel) ?_
  · ktr_unf
    have e : ((Builtin.Int.intBits x : Int) + 1).fdiv (2 ^ (1 : Int).toNat) = k := by
      rw [fdiv2]; show _ / 2 ^ 1 = _; omega
    rw [e, Int.toNat_natCast, Int.one_mul]
    have : Builtin.Int.intBits 1 = 1 := rfl
    rw [this]
    exact ⟨by omega, ⟨by omega, by omega⟩, rfl⟩
  refine st_whl (fun n ρ => ∃ (r : Int) (o2 : Option D), ρ = [some (.int x), some (.int r), o2] ∧ 1 ≤ r ∧ x < (r + 1) * (r + 1) ∧ r ≤ 2 ^ 4001 ∧ r.toNat = n) _ ⟨2 ^ k, none, rfl, by omega, ?_, pow_le2 (by omega), rfl⟩ ?_
  · have h1 := bits_lt h0
    have h2 : (2 : Int) ^ Builtin.Int.intBits x ≤ 2 ^ (k + k) := pow_le2 (by omega)
    rw [pow_add2] at h2
    have h3 := sq_mono (a := 2 ^ k) (b := 2 ^ k + 1) (by omega) (by omega)
    omega
  · rintro n ρ' ⟨r, o2, rfl, hr, hx, hr2, hn⟩
    refine ⟨by ktr_unf; decide, ?_⟩
    have hfd : x.fdiv r = x / r := Int.fdiv_eq_ediv_of_nonneg _ (by omega)
    have hlog : r.natAbs.log2 < 9000 := by
      have : r.natAbs < 2 ^ 4002 := by
        have c1 : ((2 ^ 4001 : Nat) : Int) = 2 ^ 4001 := PySem.W.kbt_cast 4001
        have : (2 : Nat) ^ 4002 = 2 ^ 4001 * 2 := Nat.pow_succ ..
        omega
      have := (Nat.log2_lt (n := r.natAbs) (k := 4002) (by omega)).mpr this
      omega
    have hq : 0 ≤ x / r := Int.ediv_nonneg h0 (by omega)
    refine st_asg (x := .int ((r + x / r) / 2)) ?_ (by ktr_rel) ?_
    · ktr_unf
      rw [hfd, fdiv2]
      exact ⟨⟨by omega, hlog⟩, by omega, rfl⟩
    refine st_ite (C := r ≤ (r + x / r) / 2) (by ktr_unf) (fun z1 => st_ret ?_) (fun z1 => st_nil ?_)
    · ktr_unf
      refine ⟨r, rfl, by omega, ?_, hx⟩
      have d1 := Int.emod_add_mul_ediv x r
      have d2 := Int.emod_nonneg x (show r ≠ 0 by omega)
      have : r * r ≤ r * (x / r) := Int.mul_le_mul_of_nonneg_left (by omega) (by omega)
      omega
    · refine st_asg (x := .int ((r + x / r) / 2)) (by ktr_unf) (by ktr_rel) (st_nil ⟨_, ?_, (r + x / r) / 2, _, rfl, ?_, newton h0 (by omega), by omega, rfl⟩)
      · omega
      · by_cases z2 : r = 1
        · subst z2
          have : x / 1 = x := Int.ediv_one x
          omega
        · omega

theorem sqrtrem_ok {W : Wd} {P : Params} (H : Here W P) {x : Int} (h0 : 0 ≤ x) (hb : Builtin.Int.intBits x ≤ 8000) :
    ∃ r : Int, 0 ≤ r ∧ r * r ≤ x ∧ x < (r + 1) * (r + 1) ∧ Ok W 2 ("sqrtrem" : Str) [.int x] (.tuple [.int r, .int (x - r * r)]) ∧ Ok W 3 ("isqrt" : Str) [.int x] (.int r) := by
  obtain ⟨d, h1, r, rfl, h2, h3, h4⟩ := isqrt_small_ok H h0 hb
  have hr : Builtin.Int.intBits r ≤ 8000 := by
    refine Nat.le_trans (bits_mono ?_) hb
    have : r * 1 ≤ r * r ∨ r = 0 := by
      by_cases z : r = 0
      · exact .inr z
      · exact .inl (Int.mul_le_mul_of_nonneg_left (by omega) h2)
    omega
  have k : Ok W 2 ("sqrtrem" : Str) [.int x] (.tuple [.int r, .int (x - r * r)]) := by
    refine fn_ok H 1 (k_sqrtrem P) (by kernel_rfl) (bnd_sqrtrem_1 H.K _) rfl (by decide) ?_
    show wpSs _ [some (.int x), none] b_sqrtrem _ _
    unfold b_sqrtrem
    refine st_asg (x := .int r) (e_call (ds := [.int x]) (by ktr_unf) h1 rfl) (by ktr_rel) (st_ret ?_)
    ktr_unf
    exact ⟨mul_ok (by omega) (by omega), trivial⟩
  refine ⟨r, h2, h3, h4, k, fn_ok H 1 (k_isqrt P) (by kernel_rfl) (bnd_isqrt_1 H.K _) rfl (by decide) ?_⟩
  show wpSs _ [some (.int x)] b_isqrt _ _
  unfold b_isqrt
  refine st_ret ?_
  unfold wpE
  refine e_call (ds := [.int x]) (by ktr_unf) k ?_
  ktr_unf
  rfl
end Mine

end

section
open PySem PySem.Calls
set_option maxRecDepth 100000
set_option linter.unusedVariables false
set_option linter.unusedSimpArgs false
namespace Mine
local macro_rules
  | `(tactic| ktr_unf) => `(tactic| simp only [wpT, wpE, wpEs, wpTr, truthD, wpBin, optP, cmpD, itemD, eq4, setAll, List.map_cons, List.map_nil, List.reverse_cons, List.reverse_nil, List.nil_append, List.cons_append, List.getElem?_cons_zero, List.getElem?_cons_succ, List.set_cons_zero, List.set_cons_succ, Option.some.injEq, PyData.int.injEq, PyData.bool.injEq, PyData.tuple.injEq, PyData.str.injEq, decide_eq_true_eq, Bool.not_eq_true', decide_eq_false_iff_not, num])
local macro_rules
  | `(tactic| ktr_rel) => `(tactic| (simp only [setAll, List.reverse_cons, List.reverse_nil, List.nil_append, List.cons_append, List.set_cons_zero, List.set_cons_succ]; rfl))

def infd : Mode → Bool
  | .f => true
  | .d => true
  | _ => false
theorem in_fd (m : Mode) : cmpD .In (.str (mch m)) (.str ⟨#[102, 100]⟩) = some (infd m) := by
  cases m <;> kernel_rfl

section
variable {W : Wd} {P : Params} {E1 E3 X : Int} {s : D} {sm se : Int} {p : Nat} {m : Mode}
theorem root_big {A r : Int} (h0 : 0 ≤ r) (h2 : A < (r + 1) * (r + 1)) (h3 : 2 ^ (2 * p) ≤ A) : 2 ^ p ≤ r := by
  have hp := pow_pos2 p
  by_cases z : 2 ^ p ≤ r
  · exact z
  · have := sq_mono (a := r + 1) (b := 2 ^ p) (by omega) (by omega)
    rw [show 2 * p = p + p by omega, pow_add2] at h3
    omega
theorem mpf_sqrt_ok (H : Here W P) (ks : Pt E1 X s 0 sm se) (hp : 1 ≤ p) (hp2 : p ≤ 1000) (hb1 : Builtin.Int.intBits sm ≤ 1000) (J : Nat) (hE : 2 * E3 = E1 + J) (hE3 : 1 ≤ E3) (hJ : 5000 ≤ se + E1 + J) (hse : se + E1 + J ≤ 1000000)
    {S : Int} (hS : 0 ≤ S) (hSe : S = X * 2 ^ J) :
    ∃ d, Ok W 5 ("mpf_sqrt" : Str) [s, .int p, .str (mch m)] d ∧ GoodC E3 (sqc S hS) p m d := by
  refine fn_ex H 3 (k_mpf_sqrt P) (by kernel_rfl) (bnd_mpf_sqrt_3 H.K _ _ _) rfl (by decide) ?_
  show wpSs _ [some s, some (.int p), some (.str (mch m)), none, none, none, none, none, none] b_mpf_sqrt _ _
  have h1 := ks.hexp
  have hpp := pow_pos2 p
  have hS' : S = sm * 2 ^ ((se + E1).toNat + J) := by rw [hSe, ks.hX, sv_0, Int.mul_assoc, ← pow_add2]
  rw [ks.hd]
  unfold b_mpf_sqrt
  refine st_asgT (ds := [.int 0, .int sm, .int se, .int (Builtin.Int.intBits sm)]) (by ktr_unf) (by ktr_rel) ?_
  refine st_ite (C := False) (t_iff (t_int (x := 0) (by ktr_unf)) (by simp)) (fun z => z.elim) (fun _ => st_nil ?_)
  refine st_ite (C := sm = 0) (t_iff (t_not (t_int (x := sm) (by ktr_unf))) (by simp)) (fun z => st_ret ?_) (fun z => st_nil ?_)
  · ktr_unf
    refine ⟨0, .inl ⟨rfl, ?_⟩, ?_⟩
    · rw [z, (ks.hz z).2]; rfl
    · exact Rnd.stands (sq_exact hS (by omega) (by rw [hS', z]; simp)) (Rnd.ex (Fits.zero p) m)
  have hs : 0 < sm := by have := ks.hman; omega
  -- the walk behind the parity
  have rest : ∀ (man e : Int) (i : Nat), man = sm * 2 ^ i → e + i = se → i ≤ 1 → e % 2 = 0 → Builtin.Int.intBits man ≤ 1001 → wpSs (Ok W 4) [some (num 0 sm se (Builtin.Int.intBits sm)), some (.int p), some (.str (mch m)), none, some (.int 0), some (.int man), some (.int e), some (.int (Builtin.Int.intBits man)), none]
      (b_mpf_sqrt.drop 4) (fun _ => False) (GoodC E3 (sqc S hS) p m) := by
    intro man e i hman he hi hev hbm
    show wpSs _ _ [MS.asg _ _, MS.aug _ _ _, MS.ite _ _ _, MS.ret _] _ _
    have hman0 : 0 < man := by rw [hman]; exact Int.mul_pos hs (pow_pos2 i)
    have hbp := bits_pos hman0
    obtain ⟨s0, hs0⟩ : ∃ s0 : Nat, (if (2 * (p : Int) - Builtin.Int.intBits man + 4) > 4 then (2 * (p : Int) - Builtin.Int.intBits man + 4) else 4) = s0 := by
      refine ⟨(if (2 * (p : Int) - Builtin.Int.intBits man + 4) > 4 then (2 * (p : Int) - Builtin.Int.intBits man + 4) else 4).toNat, ?_⟩
      split <;> omega
    have hs1 : 2 * p + 4 ≤ Builtin.Int.intBits man + s0 ∧ s0 ≤ 2 * p + 4 ∧ 4 ≤ s0 := by
      split at hs0 <;> omega
    refine st_asg (x := .int s0) (by ktr_unf; rw [hs0]; exact ⟨IntMulOk.of_left (by decide), rfl⟩) (by ktr_rel) ?_
    refine st_aug (y := .int s0) (z := .int ((s0 : Int) % 2)) (x := .int ((s0 + s0 % 2 : Nat) : Int)) rfl (by ktr_unf; exact and1 _) (by show PyData.int _ = _; congr 1) (by ktr_rel) ?_
    obtain ⟨sh, hsh⟩ : ∃ sh : Nat, s0 + s0 % 2 = sh := ⟨_, rfl⟩
    rw [hsh]
    obtain ⟨A, hA⟩ : ∃ A : Int, A = man * 2 ^ sh := ⟨_, rfl⟩
    have hA0 : 0 ≤ A := by rw [hA]; exact Int.mul_nonneg (by omega) (by have := pow_pos2 sh; omega)
    have hAb : Builtin.Int.intBits A = Builtin.Int.intBits man + sh := by rw [hA]; exact bits_mul hman0
    obtain ⟨r, r0, r1, r2, q1, q2⟩ := sqrtrem_ok H hA0 (by omega)
    have hrb : Builtin.Int.intBits r ≤ 8000 := by
      refine Nat.le_trans (bits_mono (b := A) ?_) (by omega)
      have : r * 1 ≤ r * r ∨ r = 0 := by
        by_cases z : r = 0
        · exact .inr z
        · exact .inl (Int.mul_le_mul_of_nonneg_left (by omega) r0)
      omega
    have hbig : 2 ^ p ≤ r := by
      refine root_big r0 r2 ?_
      have k1 := bits_ge (x := A) (by rw [hA]; exact Int.mul_pos hman0 (pow_pos2 sh))
      have k2 : (2 : Int) ^ (2 * p + 1) ≤ 2 ^ Builtin.Int.intBits A := pow_le2 (by omega)
      rw [Int.pow_succ] at k2
      omega
    have hq2 : (2 : Int) ^ (p + 1) ≤ 2 * r := by rw [Int.pow_succ]; omega
    -- the scales
    obtain ⟨w, hw⟩ : ∃ w : Nat, (e - sh).fdiv 2 + E3 = w + 2 := by
      refine ⟨((e - sh).fdiv 2 + E3 - 2).toNat, ?_⟩
      rw [Int.fdiv_eq_ediv_of_nonneg _ (by omega)]
      omega
    have hw2 : 2 * (w + 2) + sh + i = (se + E1).toNat + J := by
      rw [Int.fdiv_eq_ediv_of_nonneg _ (by omega)] at hw
      omega
    have hSA : S = A * (2 ^ (w + 2) * 2 ^ (w + 2)) := by
      rw [hS', hA, hman, ← pow_add2, Int.mul_assoc, Int.mul_assoc, ← pow_add2, ← pow_add2]
      congr 2; omega
    have hww := pow_pos2 (w + 2)
    have hw4 := Int.mul_pos hww hww
    have sq : ∀ c : Int, (c * 2 ^ (w + 2)) * (c * 2 ^ (w + 2)) = (c * c) * (2 ^ (w + 2) * 2 ^ (w + 2)) := fun c => by
      simp only [Int.mul_assoc, Int.mul_left_comm]
    have c1 : (sqc S hS).L (r * 2 ^ (w + 2)) := by
      right
      show (r * 2 ^ (w + 2)) * (r * 2 ^ (w + 2)) ≤ S
      rw [sq, hSA]
      exact Int.mul_le_mul_of_nonneg_right r1 (by omega)
    have c2 : S < ((r + 1) * 2 ^ (w + 2)) * ((r + 1) * 2 ^ (w + 2)) := by
      rw [sq, hSA]
      exact Int.mul_lt_mul_of_pos_right r2 hw4
    have c0 : 0 ≤ (r + 1) * 2 ^ (w + 2) := Int.mul_nonneg (by omega) (by omega)
    have c3 : (sqc S hS).U ((r + 1) * 2 ^ (w + 2)) := ⟨c0, by omega⟩
    have c4 : ¬ (sqc S hS).L ((r + 1) * 2 ^ (w + 2)) := by
      have c0' : 0 < (r + 1) * 2 ^ (w + 2) := Int.mul_pos (by omega) hww
      rintro (h | h)
      · omega
      · have h' : ((r + 1) * 2 ^ (w + 2)) * ((r + 1) * 2 ^ (w + 2)) ≤ S := h
        omega
    have hSpos : 0 < S := by rw [hSA]; exact Int.mul_pos (by rw [hA]; exact Int.mul_pos hman0 (pow_pos2 sh)) hw4
    -- the end
    have last : ∀ (r' : Int) (sh' e' : Int) (o8 : Option D), 0 ≤ r' → Builtin.Int.intBits r' ≤ 9000 → (e - sh').fdiv 2 = e' → 1 ≤ e' + E3 → (∀ res, Rnd p (ex (r' * 2 ^ (e' + E3).toNat)) res m → Rnd p (sqc S hS) res m) → wpSs (Ok W 4) [some (num 0 sm se (Builtin.Int.intBits sm)), some (.int p), some (.str (mch m)), some (.int sh'), some (.int 0), some (.int r'), some (.int e), some (.int (Builtin.Int.intBits man)), o8]
        (b_mpf_sqrt.drop 7) (fun _ => False) (GoodC E3 (sqc S hS) p m) := by
      intro r' sh' e' o8 hr0 hrb he' hE' himp
      show wpSs _ _ [MS.ret _] _ _
      obtain ⟨d, f1, res, f2, f3⟩ := from_man_exp_ok (m := m) (E := E3) (exp := e') H hr0 hp (by omega) hE'
      refine st_ret (e_callx (ds := [.int r', .int e', .int p, .str (mch m)]) ?_ ⟨d, f1, res, f2, himp _ f3⟩)
      ktr_unf
      exact ⟨⟨by decide, by decide⟩, by rw [he']⟩
    have hw' : ((e - sh).fdiv 2 + E3).toNat = w + 2 := by omega
    refine st_ite (C := infd m = true) (t_cmp (a := .str (mch m)) (b := .str ⟨#[102, 100]⟩) (by ktr_unf) (by ktr_unf) (in_fd m) Iff.rfl) (fun z2 => ?_) (fun z2 => ?_)
    · refine st_asg (x := .int r) ?_ (by ktr_rel) (st_nil (last r sh _ _ r0 (by omega) rfl (by omega) ?_))
      · refine e_call (ds := [.int A]) ?_ (q2.more (by omega)) rfl
        ktr_unf
        rw [Int.toNat_natCast]
        exact ⟨⟨by omega, by omega⟩, by rw [hA]⟩
      · intro res hres
        rw [hw'] at hres
        have fl := floor_sq hq2 c1 c4
        have y0 : 0 ≤ r * 2 ^ (w + 2) := Int.mul_nonneg r0 (by omega)
        cases m with
        | n => exact absurd z2 (by decide)
        | c => exact absurd z2 (by decide)
        | u => exact absurd z2 (by decide)
        | f => exact floor_stands fl hres
        | d => exact ⟨fun _ => floor_stands fl (hres.1 y0), fun h => absurd h.2 (by show ¬ S ≤ 0 * 0; omega)⟩
    · refine st_asgT (ds := [.int r, .int (A - r * r)]) ?_ (by ktr_rel) ?_
      · refine e_call (ds := [.int A]) ?_ (q1.more (by omega)) rfl
        ktr_unf
        rw [Int.toNat_natCast]
        exact ⟨⟨by omega, by omega⟩, by rw [hA]⟩
      refine st_ite (C := A - r * r ≠ 0) (t_int (by ktr_unf)) (fun z3 => ?_) (fun z3 => st_nil (st_nil (last r sh _ _ r0 (by omega) rfl (by omega) ?_)))
      · refine st_asg (x := .int (2 * r + 1)) ?_ (by ktr_rel) ?_
        · ktr_unf
          exact ⟨⟨by omega, by omega⟩, by show r * 2 ^ 1 + 1 = _; omega⟩
        have hb2 := bits_add (a := r + r) (b := 1) (k := 8001) (bits_add hrb hrb) (by decide)
        rw [← Int.two_mul] at hb2
        have hfd : (e - (sh + 2)).fdiv 2 = (e - sh).fdiv 2 - 1 := by
          rw [Int.fdiv_eq_ediv_of_nonneg _ (by omega), Int.fdiv_eq_ediv_of_nonneg _ (by omega)]; omega
        refine st_aug (y := .int sh) (z := .int 2) (x := .int (sh + 2)) rfl (by ktr_unf) rfl (by ktr_rel) (st_nil (st_nil (last (2 * r + 1) (sh + 2) _ _ (by omega) (by omega) hfd (by omega) ?_)))
        intro res hres
        rw [show ((e - sh).fdiv 2 - 1 + E3).toNat = w + 1 by omega] at hres
        refine Rnd.stands (sticky hq2 c1 ?_ c3 c4) hres
        rintro ⟨_, h⟩
        rw [sq, hSA] at h
        have := Int.le_of_mul_le_mul_right h hw4
        omega
      · intro res hres
        rw [hw'] at hres
        refine Rnd.stands (sq_exact hS (Int.mul_nonneg r0 (by omega)) ?_) hres
        rw [sq, hSA, show A = r * r by omega]
  refine st_ite (C := se % 2 = 1) (t_iff (t_int (x := se % 2) (by ktr_unf; exact and1 _)) (by omega)) (fun z1 => ?_) (fun z1 => ?_)
  · refine st_aug (y := .int se) (z := .int 1) (x := .int (se - 1)) rfl (by ktr_unf) rfl (by ktr_rel) ?_
    refine st_aug (y := .int sm) (z := .int 1) (x := .int (sm * 2 ^ 1)) rfl (by ktr_unf) ⟨⟨by omega, by omega⟩, rfl⟩ (by ktr_rel) ?_
    have hb := bits_mul (k := 1) hs
    refine st_aug (y := .int (Builtin.Int.intBits sm)) (z := .int 1) (x := .int (Builtin.Int.intBits (sm * 2 ^ 1))) rfl (by ktr_unf) (by show PyData.int _ = _; congr 1; omega) (by ktr_rel) (st_nil ?_)
    exact rest (sm * 2 ^ 1) (se - 1) 1 rfl (by omega) (by omega) (by omega) (by omega)
  · refine st_ite (C := sm = 1) (by ktr_unf) (fun z2 => ?_) (fun z2 => st_nil (st_nil ?_))
    · have hfd : se.fdiv 2 = se / 2 := Int.fdiv_eq_ediv_of_nonneg _ (by omega)
      obtain ⟨d, f1, res, f2, f3⟩ := nz (m := m) (E := E3) (exp := se.fdiv 2) H (.inl rfl) ks.hman hp (by omega) (by omega) rfl
      refine st_ret (e_callx (ds := [.int 0, .int sm, .int (se.fdiv 2), .int (Builtin.Int.intBits sm), .int p, .str (mch m)]) ?_ ⟨d, f1.more (by omega), res, f2, Rnd.stands (sq_exact hS ?_ ?_) f3⟩)
      · ktr_unf
        exact ⟨⟨by decide, by decide⟩, trivial⟩
      · rw [sv_0]; exact Int.mul_nonneg ks.hman (by have := pow_pos2 (se.fdiv 2 + E3).toNat; omega)
      · rw [sv_0, hS', z2, Int.one_mul, Int.one_mul, ← pow_add2]
        congr 1; omega
    · have := rest sm se 0 (by simp) (by omega) (by omega) (by omega) (by omega)
      exact this
end
end Mine

end

section
open PySem PySem.Calls
set_option maxRecDepth 100000
set_option linter.unusedVariables false
set_option linter.unusedSimpArgs false
namespace Mine
local macro_rules
  | `(tactic| ktr_unf) => `(tactic| simp only [wpT, wpE, wpEs, wpTr, truthD, wpBin, optP, cmpD, itemD, eq4, setAll, List.map_cons, List.map_nil, List.reverse_cons, List.reverse_nil, List.nil_append, List.cons_append, List.getElem?_cons_zero, List.getElem?_cons_succ, List.set_cons_zero, List.set_cons_succ, Option.some.injEq, PyData.int.injEq, PyData.bool.injEq, PyData.tuple.injEq, PyData.str.injEq, decide_eq_true_eq, Bool.not_eq_true', decide_eq_false_iff_not, num])
local macro_rules
  | `(tactic| ktr_rel) => `(tactic| (simp only [setAll, List.reverse_cons, List.reverse_nil, List.nil_append, List.cons_append, List.set_cons_zero, List.set_cons_succ]; rfl))

section
variable {W : Wd} {P : Params} {E X Y : Int} {s t : D} {sg sm se tg tm te : Int}
theorem mag_lt (hs : 0 < sm) (ht : 0 < tm) (h1 : 1 ≤ se + E) (h2 : 1 ≤ te + E) (h : Builtin.Int.intBits sm + se < Builtin.Int.intBits tm + te) : sm * 2 ^ (se + E).toNat < tm * 2 ^ (te + E).toNat := by
  have a := Int.mul_lt_mul_of_pos_right (bits_lt (x := sm) (by omega)) (pow_pos2 (se + E).toNat)
  have b := Int.mul_le_mul_of_nonneg_right (bits_ge ht) (show (0 : Int) ≤ 2 ^ (te + E).toNat by have := pow_pos2 (te + E).toNat; omega)
  have c : (2 : Int) ^ (Builtin.Int.intBits sm + (se + E).toNat + 1) ≤ 2 ^ (Builtin.Int.intBits tm + (te + E).toNat) := pow_le2 (by omega)
  rw [← pow_add2] at a b
  rw [Int.pow_succ] at c
  rw [Int.mul_assoc] at b
  omega
theorem mpf_cmp_ok (H : Here W P) (ks : Pt E X s sg sm se) (kt : Pt E Y t tg tm te) (hE : 1 ≤ E) (hb1 : Builtin.Int.intBits sm ≤ 1000) (hb2 : Builtin.Int.intBits tm ≤ 1000) (ho : se - te ≤ 100000) (ho2 : te - se ≤ 100000) :
    ∃ d, Ok W 6 ("mpf_cmp" : Str) [s, t] d ∧ ∃ c : Int, d = .int c ∧ (c ≤ 0 ↔ X ≤ Y) := by
  refine fn_ex H 2 (k_mpf_cmp P) (by kernel_rfl) (bnd_mpf_cmp_2 H.K _ _) rfl (by decide) ?_
  show wpSs _ [some s, some t, none, none, none, none, none, none, none, none, none, none, none] b_mpf_cmp _ _
  have h1 := ks.hexp
  have h2 := kt.hexp
  have ksg := ks.hsg
  have ktg := kt.hsg
  have hXs := ks.hX
  have hYt := kt.hX
  have p1 := pow_pos2 (se + E).toNat
  have p2 := pow_pos2 (te + E).toNat
  have hsub : Builtin.Int.intBits sm + se = Builtin.Int.intBits tm + te → ∃ d, Ok W 5 ("mpf_sub" : Str) [s, t, .int 5, .str chF] d ∧ Good E (X - Y) 5 .f d := fun hab =>
    mpf_sub_ok (p := 5) (m := .f) H ks kt hE (by omega) (by omega) hb1 hb2 ho ho2 (fun _ h => by omega) (fun _ h => by omega)
  rw [ks.hd, kt.hd] at hsub
  rw [ks.hd, kt.hd]
  unfold b_mpf_cmp
  refine st_asgT (ds := [.int sg, .int sm, .int se, .int (Builtin.Int.intBits sm)]) (by ktr_unf) (by ktr_rel) ?_
  refine st_asgT (ds := [.int tg, .int tm, .int te, .int (Builtin.Int.intBits tm)]) (by ktr_unf) (by ktr_rel) ?_
  have one : ∀ {ρ : Rho}, X > Y → wpSs (Ok W 5) ρ [.ret (.int (1))] (fun _ => False) (fun d => ∃ c : Int, d = .int c ∧ (c ≤ 0 ↔ X ≤ Y)) := fun h => st_ret (by ktr_unf; exact ⟨1, rfl, by omega⟩)
  refine st_ite (C := sm = 0 ∨ tm = 0) (t_iff (t_or (t_not (t_int (x := sm) (by ktr_unf))) fun _ => t_not (t_int (x := tm) (by ktr_unf))) (by simp)) (fun z => ?_) (fun z => st_nil ?_)
  · refine st_ite (C := sm = 0) (t_iff (t_cmp (a := num sg sm se (Builtin.Int.intBits sm)) (b := num 0 0 0 0) (by ktr_unf) (by ktr_unf) rfl Iff.rfl) ?_) (fun z1 => ?_) (fun z1 => st_nil ?_)
    · simp only [decide_eq_true_eq]
      refine ⟨fun q => q.2.1, fun q => ⟨(ks.hz q).1, q, (ks.hz q).2, by rw [q]; rfl⟩⟩
    · have hs := mpf_sign_ok H (sg := tg) (man := tm) (exp := te) (bc := Builtin.Int.intBits tm) kt.hsg (fun q => (kt.hz q).2)
      refine st_ret ?_
      unfold wpE
      refine e_call (ds := [num tg tm te (Builtin.Int.intBits tm)]) (by ktr_unf) (hs.more (by omega)) ?_
      refine ⟨_, rfl, ?_⟩
      have hX0 : X = 0 := by rw [hXs, z1]; unfold sv; simp
      rw [hX0, hYt]
      by_cases z2 : tm = 0
      · rw [if_pos z2, z2]; unfold sv; simp
      · have ht : 0 < tm := by have := kt.hman; omega
        have := Int.mul_pos ht p2
        rw [if_neg z2]
        rcases ktg with h | h
        · rw [if_pos h, h, sv_0]; constructor <;> omega
        · rw [if_neg (by omega), h, sv_1, Int.neg_mul]; constructor <;> omega
    · have z2 : tm = 0 := by omega
      have hs := mpf_sign_ok H (sg := sg) (man := sm) (exp := se) (bc := Builtin.Int.intBits sm) ks.hsg (fun q => (ks.hz q).2)
      refine st_ite (C := True) (t_iff (t_cmp (a := num tg tm te (Builtin.Int.intBits tm)) (b := num 0 0 0 0) (by ktr_unf) (by ktr_unf) rfl Iff.rfl) ?_) (fun _ => ?_) (fun z => absurd trivial z)
      · simp only [decide_eq_true_eq]
        exact ⟨fun _ => trivial, fun _ => ⟨(kt.hz z2).1, z2, (kt.hz z2).2, by rw [z2]; rfl⟩⟩
      refine st_ret (e_call (ds := [num sg sm se (Builtin.Int.intBits sm)]) (by ktr_unf) (hs.more (by omega)) ⟨_, rfl, ?_⟩)
      have hY0 : Y = 0 := by rw [hYt, z2]; unfold sv; simp
      rw [hY0, hXs, if_neg z1]
      have hs : 0 < sm := by have := ks.hman; omega
      have := Int.mul_pos hs p1
      rcases ksg with h | h
      · rw [if_pos h, h, sv_0]; constructor <;> omega
      · rw [if_neg (by omega), h, sv_1, Int.neg_mul]; constructor <;> omega
  have hs : 0 < sm := by have := ks.hman; omega
  have ht : 0 < tm := by have := kt.hman; omega
  have m1 := Int.mul_pos hs p1
  have m2 := Int.mul_pos ht p2
  have lt1 := mag_lt (E := E) hs ht h1 h2
  have lt2 := mag_lt (E := E) ht hs h2 h1
  have hsgX : (sg = 0 ∧ X = sm * 2 ^ (se + E).toNat) ∨ (sg = 1 ∧ X = -(sm * 2 ^ (se + E).toNat)) := by
    rcases ksg with h | h
    · left; rw [hXs, h, sv_0]; exact ⟨rfl, rfl⟩
    · right; rw [hXs, h, sv_1, Int.neg_mul]; exact ⟨rfl, rfl⟩
  have hsgY : (tg = 0 ∧ Y = tm * 2 ^ (te + E).toNat) ∨ (tg = 1 ∧ Y = -(tm * 2 ^ (te + E).toNat)) := by
    rcases ktg with h | h
    · left; rw [hYt, h, sv_0]; exact ⟨rfl, rfl⟩
    · right; rw [hYt, h, sv_1, Int.neg_mul]; exact ⟨rfl, rfl⟩
  refine st_ite (C := sg ≠ tg) (t_iff (t_cmp (a := .int sg) (b := .int tg) (by ktr_unf) (by ktr_unf) rfl Iff.rfl) (by simp)) (fun z1 => ?_) (fun z1 => st_nil ?_)
  · refine st_ite (C := sg = 0) (t_iff (t_not (t_int (x := sg) (by ktr_unf))) (by simp)) (fun z2 => st_ret ?_) (fun z2 => st_nil (st_ret ?_))
    · ktr_unf; exact ⟨1, rfl, by omega⟩
    · ktr_unf; exact ⟨-1, rfl, by omega⟩
  have z1 : sg = tg := by omega
  refine st_ite (C := se = te) (by ktr_unf) (fun z2 => ?_) (fun z2 => st_nil ?_)
  · have lt : sm < tm → sm * 2 ^ (se + E).toNat < tm * 2 ^ (te + E).toNat := fun h => by rw [z2]; exact Int.mul_lt_mul_of_pos_right h p2
    have gt : tm < sm → tm * 2 ^ (te + E).toNat < sm * 2 ^ (se + E).toNat := fun h => by rw [z2]; exact Int.mul_lt_mul_of_pos_right h p2
    refine st_ite (C := sm = tm) (by ktr_unf) (fun z3 => st_ret ?_) (fun z3 => st_nil ?_)
    · ktr_unf
      refine ⟨0, rfl, ?_⟩
      have : X = Y := by rw [hXs, hYt, z1, z2, z3]
      omega
    refine st_ite (C := tm < sm) (by ktr_unf) (fun z4 => ?_) (fun z4 => ?_)
    · have := gt z4
      refine st_ite (C := sg ≠ 0) (t_int (by ktr_unf)) (fun z5 => st_ret ?_) (fun z5 => st_ret ?_)
      · ktr_unf; exact ⟨-1, rfl, by omega⟩
      · ktr_unf; exact ⟨1, rfl, by omega⟩
    · have := lt (by omega)
      refine st_ite (C := sg ≠ 0) (t_int (by ktr_unf)) (fun z5 => st_ret ?_) (fun z5 => st_ret ?_)
      · ktr_unf; exact ⟨1, rfl, by omega⟩
      · ktr_unf; exact ⟨-1, rfl, by omega⟩
  refine st_asg (x := .int (Builtin.Int.intBits sm + se)) (by ktr_unf) (by ktr_rel) ?_
  refine st_asg (x := .int (Builtin.Int.intBits tm + te)) (by ktr_unf) (by ktr_rel) ?_
  have last : Builtin.Int.intBits sm + se = Builtin.Int.intBits tm + te → wpSs (Ok W 5) [some (num sg sm se (Builtin.Int.intBits sm)), some (num tg tm te (Builtin.Int.intBits tm)), some (.int (Builtin.Int.intBits sm + se)), some (.int (Builtin.Int.intBits tm + te)), none, some (.int sg), some (.int sm), some (.int se), some (.int (Builtin.Int.intBits sm)), some (.int tg), some (.int tm), some (.int te), some (.int (Builtin.Int.intBits tm))]
      (b_mpf_cmp.drop 8) (fun _ => False) (fun d => ∃ c : Int, d = .int c ∧ (c ≤ 0 ↔ X ≤ Y)) := by
    intro hab
    show wpSs _ _ [MS.asg _ _, MS.ite _ _ _, MS.ret _] _ _
    obtain ⟨d, f1, r, f2, f3⟩ := hsub hab
    refine st_asg (x := d) (e_call (ds := [num sg sm se (Builtin.Int.intBits sm), num tg tm te (Builtin.Int.intBits tm), .int 5, .str chF]) (by ktr_unf) f1 rfl) (by ktr_rel) ?_
    have hr : r < 0 ↔ X < Y := by
      have f4 : isFloor 5 (ex (X - Y)) r := f3
      have f5 : r ≤ X - Y := f4.2.1
      refine ⟨fun h => ?_, fun h => by omega⟩
      by_cases z : X < Y
      · exact z
      · have := f4.2.2 0 (Fits.zero 5) (by show 0 ≤ X - Y; omega)
        omega
    have hrY : r = 0 → ¬ X < Y := fun h => by omega
    obtain ⟨dg, dm, de, kd⟩ := f2.pt hE
    have hdg : dg ≠ 0 ↔ X < Y := by
      rw [← hr, kd.hX]
      have p3 := pow_pos2 (de + E).toNat
      have p4 : 0 ≤ dm * 2 ^ (de + E).toNat := Int.mul_nonneg kd.hman (by omega)
      rcases kd.hsg with h | h
      · rw [h, sv_0]; constructor <;> omega
      · have hm : dm ≠ 0 := fun q => by have := (kd.hz q).1; omega
        have hm0 : 0 < dm := by have := kd.hman; omega
        have p5 := Int.mul_pos hm0 p3
        rw [h, sv_1, Int.neg_mul]; constructor <;> omega
    refine st_ite (C := dg ≠ 0) (t_int ?_) (fun z5 => st_ret ?_) (fun z5 => st_nil (st_ret ?_))
    · ktr_unf
      rw [kd.hd]
      rfl
    · ktr_unf
      exact ⟨-1, rfl, by have := hdg.mp z5; omega⟩
    · ktr_unf
      refine ⟨1, rfl, ⟨fun q => absurd q (by decide), fun q => ?_⟩⟩
      exfalso
      have : ¬ X < Y := fun h => z5 (hdg.mpr h)
      have hXY : X = Y := by omega
      have hme : sm * 2 ^ (se + E).toNat = tm * 2 ^ (te + E).toNat := by omega
      have := (odd_uniq (ks.hodd (by omega)) (kt.hodd (by omega)) hme).1
      omega
  refine st_ite (C := sg ≠ 0) (t_int (by ktr_unf)) (fun z3 => ?_) (fun z3 => ?_)
  · refine st_ite (C := (Builtin.Int.intBits sm : Int) + se < Builtin.Int.intBits tm + te) (by ktr_unf) (fun z4 => st_ret ?_) (fun z4 => st_nil ?_)
    · have := lt1 z4; ktr_unf; exact ⟨1, rfl, by omega⟩
    refine st_ite (C := (Builtin.Int.intBits tm : Int) + te < Builtin.Int.intBits sm + se) (by ktr_unf) (fun z5 => st_ret ?_) (fun z5 => st_nil (st_nil (last (by omega))))
    · have := lt2 z5; ktr_unf; exact ⟨-1, rfl, by omega⟩
  · refine st_ite (C := (Builtin.Int.intBits sm : Int) + se < Builtin.Int.intBits tm + te) (by ktr_unf) (fun z4 => st_ret ?_) (fun z4 => st_nil ?_)
    · have := lt1 z4; ktr_unf; exact ⟨-1, rfl, by omega⟩
    refine st_ite (C := (Builtin.Int.intBits tm : Int) + te < Builtin.Int.intBits sm + se) (by ktr_unf) (fun z5 => st_ret ?_) (fun z5 => st_nil (st_nil (last (by omega))))
    · have := lt2 z5; ktr_unf; exact ⟨1, rfl, by omega⟩
theorem mpf_le_ok (H : Here W P) (ks : Pt E X s sg sm se) (kt : Pt E Y t tg tm te) (hE : 1 ≤ E) (hb1 : Builtin.Int.intBits sm ≤ 1000) (hb2 : Builtin.Int.intBits tm ≤ 1000) (ho : se - te ≤ 100000) (ho2 : te - se ≤ 100000) :
    Ok W 7 ("mpf_le" : Str) [s, t] (.bool (decide (X ≤ Y))) := by
  obtain ⟨d, h1, c, rfl, h2⟩ := mpf_cmp_ok H ks kt hE hb1 hb2 ho ho2
  refine fn_ok H 2 (k_mpf_le P) (by kernel_rfl) (bnd_mpf_le_2 H.K _ _) rfl (by decide) ?_
  show wpSs _ [some s, some t] b_mpf_le _ _
  rw [ks.hd, kt.hd] at h1 ⊢
  unfold b_mpf_le
  have nn : ∀ {a b c : Int}, (b = 0 → a = 0 ∧ c = 0) → ¬ (a = 0 ∧ b = 0 ∧ c = -123 ∧ (Builtin.Int.intBits b : Int) = -1) := fun h q => by have := h q.2.1; omega
  refine st_ite (C := False) (t_iff (t_or (t_cmp (a := num sg sm se (Builtin.Int.intBits sm)) (b := num 0 0 (-123) (-1)) (by ktr_unf) (by ktr_unf) rfl Iff.rfl) fun _ => t_cmp (a := num tg tm te (Builtin.Int.intBits tm)) (b := num 0 0 (-123) (-1)) (by ktr_unf) (by ktr_unf) rfl Iff.rfl) ?_) (fun z => z.elim) (fun _ => st_nil (st_ret ?_))
  · simp only [decide_eq_true_eq]
    exact ⟨fun q => q.elim (nn ks.hz) (nn kt.hz), fun q => q.elim⟩
  · unfold wpE
    refine e_call (ds := [num sg sm se (Builtin.Int.intBits sm), num tg tm te (Builtin.Int.intBits tm)]) (by ktr_unf) h1 ?_
    ktr_unf
    rw [decide_eq_decide.mpr h2]
end
end Mine

end

section
open PySem PySem.Calls
set_option maxRecDepth 100000
set_option linter.unusedVariables false
set_option linter.unusedSimpArgs false
namespace Mine
local macro_rules
  | `(tactic| ktr_unf) => `(tactic| simp only [wpT, wpE, wpEs, wpTr, truthD, wpBin, optP, cmpD, itemD, eq4, setAll, List.map_cons, List.map_nil, List.reverse_cons, List.reverse_nil, List.nil_append, List.cons_append, List.getElem?_cons_zero, List.getElem?_cons_succ, List.set_cons_zero, List.set_cons_succ, Option.some.injEq, PyData.int.injEq, PyData.bool.injEq, PyData.tuple.injEq, PyData.str.injEq, decide_eq_true_eq, Bool.not_eq_true', decide_eq_false_iff_not, num])
local macro_rules
  | `(tactic| ktr_rel) => `(tactic| (simp only [setAll, List.reverse_cons, List.reverse_nil, List.nil_append, List.cons_append, List.set_cons_zero, List.set_cons_succ]; rfl))

/-- an operand of the law: few digits, a moderate exponent -/
def Nu (E X : Int) (d : D) : Prop := ∃ sg man exp, Pt E X d sg man exp ∧ Builtin.Int.intBits man ≤ 31 ∧ 1000 ≤ exp + E ∧ exp + E ≤ 2000 ∧ 1 ≤ E
theorem Nu.is {E X : Int} {d : D} (h : Nu E X d) : Is E X d := by
  obtain ⟨_, _, _, h, _⟩ := h
  exact h.is

/-- the exact answer of an operation, as a cut at a scale -/
def Val (kind E : Int) (s t : D) (n : Int) (C : Cut) : Prop :=
  Builtin.Int.intBits n ≤ 1000 ∧ (500 ≤ E ∧ E ≤ 10000) ∧
  ((kind = 0 ∧ ∃ X Y, Nu E X s ∧ Nu E Y t ∧ C = ex (X + Y)) ∨
  (kind = 1 ∧ ∃ X Y, Nu E X s ∧ Nu E Y t ∧ C = ex (X - Y)) ∨
  (kind = 2 ∧ ∃ E1 E2 X Y, E = E1 + E2 ∧ Nu E1 X s ∧ Nu E2 Y t ∧ C = ex (X * Y)) ∨
  (kind = 3 ∧ ∃ (E1 E2 X Y : Int) (J : Nat) (N Dn : Int) (hD : 0 < Dn), E = E1 - E2 + J ∧ Nu E1 X s ∧ Nu E2 Y t ∧ Y ≠ 0 ∧ 5000 ≤ J ∧ J ≤ 6000 ∧ N = (if 0 < Y then X * 2 ^ J else -(X * 2 ^ J)) ∧ Dn = (if 0 < Y then Y else -Y) ∧ C = divc N Dn hD) ∨
  (kind = 4 ∧ ∃ (E1 X : Int) (J : Nat) (S : Int) (hS : 0 ≤ S), 2 * E = E1 + J ∧ Nu E1 X s ∧ 5000 ≤ J ∧ J ≤ 6000 ∧ S = (if 0 ≤ X then X else -X) * 2 ^ J ∧ C = sqc S hS) ∨
  (kind = 5 ∧ ∃ X, Nu E X s ∧ C = ex (X * n)) ∨
  (kind = 6 ∧ ∃ (E2 Y : Int) (J : Nat) (N Dn : Int) (hD : 0 < Dn), E = J - E2 ∧ Nu E2 Y t ∧ Y ≠ 0 ∧ 6000 ≤ J ∧ J ≤ 7000 ∧ N = (if 0 < Y then n * 2 ^ J else -(n * 2 ^ J)) ∧ Dn = (if 0 < Y then Y else -Y) ∧ C = divc N Dn hD))

section
variable {W : Wd} {P : Params}
theorem abs_nu (H : Here W P) {E X : Int} {s : D} (h : Nu E X s) : ∃ d, Ok W 1 ("mpf_abs" : Str) [s] d ∧ ∃ man exp, Pt E (if 0 ≤ X then X else -X) d 0 man exp ∧ Builtin.Int.intBits man ≤ 31 ∧ 1000 ≤ exp + E ∧ exp + E ≤ 2000 := by
  obtain ⟨sg, man, exp, k, hb, l1, l2, hE⟩ := h
  obtain ⟨d, h1, h2⟩ := mpf_abs_ok H k.is hE
  refine ⟨d, h1, man, exp, ?_⟩
  have p1 := pow_pos2 (exp + E).toNat
  have h3 : 0 ≤ man * 2 ^ (exp + E).toNat := Int.mul_nonneg k.hman (by omega)
  have e : (if 0 ≤ X then X else -X) = man * 2 ^ (exp + E).toNat := by
    rcases k.hsg with h | h
    · have : X = man * 2 ^ (exp + E).toNat := by rw [k.hX, h, sv_0]
      rw [if_pos (by omega), this]
    · have hm : man ≠ 0 := fun q => by have := (k.hz q).1; omega
      have hm0 : 0 < man := by have := k.hman; omega
      have p2 := Int.mul_pos hm0 p1
      have : X = -(man * 2 ^ (exp + E).toNat) := by rw [k.hX, h, sv_1, Int.neg_mul]
      rw [if_neg (by omega), this]; omega
  have kk : Pt E (man * 2 ^ (exp + E).toNat) (num 0 man exp (Builtin.Int.intBits man)) 0 man exp := ⟨rfl, .inl rfl, k.hman, k.hexp, by rw [sv_0], fun q => ⟨rfl, (k.hz q).2⟩, k.hodd⟩
  rw [e] at h2 ⊢
  rw [h2.uniq kk.is]
  exact ⟨kk, hb, l1, l2⟩

theorem done_ok (H : Here W P) {kind E n : Int} {s t : D} {C : Cut} {p : Nat} (m : Mode) (h : Val kind E s t n C) (hp : 30 ≤ p) (hp2 : p ≤ 1000) :
    ∃ d, Ok W 6 ("_law_done" : Str) [.int kind, s, t, .int n, .int p, .str (mch m)] d ∧ GoodC E C p m d := by
  obtain ⟨hn, hE, h⟩ := h
  refine fn_ex H 6 (k_law_done P) (by kernel_rfl) (bnd_law_done_6 H.K _ _ _ _ _ _) rfl (by decide) ?_
  show wpSs _ [some (.int kind), some s, some t, some (.int n), some (.int p), some (.str (mch m))] b_law_done _ _
  unfold b_law_done
  refine st_ite (C := kind = 0) (by ktr_unf) (fun z => ?_) (fun z0 => st_nil ?_)
  · rcases h with h | h | h | h | h | h | h
    · obtain ⟨_, X, Y, ⟨sg, sm, se, ks, b1, l1, u1⟩, ⟨tg, tm, te, kt, b2, l2, u2⟩, rfl⟩ := h
      obtain ⟨d, q1, q2⟩ := mpf_add_ok4 (m := m) H ks kt (by omega) (by omega) hp2 (by omega) (by omega) (by omega) (by omega) (p := p) (fun _ _ => by omega) (fun _ _ => by omega)
      exact st_ret (e_callx (ds := [s, t, .int p, .str (mch m)]) (by ktr_unf) ⟨d, q1.more (by omega), q2⟩)
    all_goals omega
  refine st_ite (C := kind = 1) (by ktr_unf) (fun z => ?_) (fun z1 => st_nil ?_)
  · rcases h with h | h | h | h | h | h | h
    · omega
    · obtain ⟨_, X, Y, ⟨sg, sm, se, ks, b1, l1, u1⟩, ⟨tg, tm, te, kt, b2, l2, u2⟩, rfl⟩ := h
      obtain ⟨d, q1, q2⟩ := mpf_sub_ok (m := m) H ks kt (by omega) (by omega) hp2 (by omega) (by omega) (by omega) (by omega) (p := p) (fun _ _ => by omega) (fun _ _ => by omega)
      exact st_ret (e_callx (ds := [s, t, .int p, .str (mch m)]) (by ktr_unf) ⟨d, q1.more (by omega), q2⟩)
    all_goals omega
  refine st_ite (C := kind = 2) (by ktr_unf) (fun z => ?_) (fun z2 => st_nil ?_)
  · rcases h with h | h | h | h | h | h | h
    · omega
    · omega
    · obtain ⟨_, E1, E2, X, Y, hEE, ⟨sg, sm, se, ks, b1, l1, u1⟩, ⟨tg, tm, te, kt, b2, l2, u2⟩, rfl⟩ := h
      obtain ⟨d, q1, q2⟩ := mpf_mul_ok (m := m) H ks kt (p := p) (by omega) (by omega) (by omega)
      rw [← hEE] at q2
      exact st_ret (e_callx (ds := [s, t, .int p, .str (mch m)]) (by ktr_unf) ⟨d, q1.more (by omega), q2⟩)
    all_goals omega
  refine st_ite (C := kind = 3) (by ktr_unf) (fun z => ?_) (fun z3 => st_nil ?_)
  · rcases h with h | h | h | h | h | h | h
    · omega
    · omega
    · omega
    · obtain ⟨_, E1, E2, X, Y, J, N, Dn, hD, hEE, ⟨sg, sm, se, ks, b1, l1, u1⟩, ⟨tg, tm, te, kt, b2, l2, u2⟩, hY, hJ1, hJ2, hN, hDe, rfl⟩ := h
      have htm : tm ≠ 0 := fun q => hY (by rw [kt.hX, q]; unfold sv; simp)
      obtain ⟨d, q1, q2⟩ := mpf_div_ok (m := m) H ks kt htm (p := p) (by omega) hp2 (by omega) (by omega) J (by omega) (by omega) hD hN hDe
      rw [← hEE] at q2
      exact st_ret (e_callx (ds := [s, t, .int p, .str (mch m)]) (by ktr_unf) ⟨d, q1.more (by omega), q2⟩)
    all_goals omega
  refine st_ite (C := kind = 4) (by ktr_unf) (fun z => ?_) (fun z4 => st_nil ?_)
  · rcases h with h | h | h | h | h | h | h
    · omega
    · omega
    · omega
    · omega
    · obtain ⟨_, E1, X, J, S, hS, hEE, hs, hJ1, hJ2, hSe, rfl⟩ := h
      obtain ⟨da, a1, a2⟩ := abs_nu H hs
      obtain ⟨man, exp, ka, b3, l3, u3⟩ := a2
      obtain ⟨d, q1, q2⟩ := mpf_sqrt_ok (m := m) H ka (p := p) (by omega) hp2 (by omega) J hEE (by omega) (by omega) (by omega) hS hSe
      refine st_ret (e_callx (ds := [da, .int p, .str (mch m)]) ?_ ⟨d, q1.more (by omega), q2⟩)
      exact es_cons (e_call (ds := [s]) (by ktr_unf) (a1.more (by omega)) rfl) (es_cons (x := .int p) (by ktr_unf) (es_cons (x := .str (mch m)) (by ktr_unf) (es_nil rfl)))
    all_goals omega
  refine st_ite (C := kind = 5) (by ktr_unf) (fun z => ?_) (fun z5 => st_nil ?_)
  · rcases h with h | h | h | h | h | h | h
    · omega
    · omega
    · omega
    · omega
    · omega
    · obtain ⟨_, X, ⟨sg, sm, se, ks, b1, l1, u1⟩, rfl⟩ := h
      obtain ⟨d, q1, q2⟩ := mpf_mul_int_ok (m := m) H ks n (p := p) (by omega) (by omega) hn
      exact st_ret (e_callx (ds := [s, .int n, .int p, .str (mch m)]) (by ktr_unf) ⟨d, q1.more (by omega), q2⟩)
    · omega
  · rcases h with h | h | h | h | h | h | h
    · omega
    · omega
    · omega
    · omega
    · omega
    · omega
    · obtain ⟨_, E2, Y, J, N, Dn, hD, hEE, ⟨tg, tm, te, kt, b2, l2, u2⟩, hY, hJ1, hJ2, hN, hDe, rfl⟩ := h
      have htm : tm ≠ 0 := fun q => hY (by rw [kt.hX, q]; unfold sv; simp)
      obtain ⟨d, q1, q2⟩ := mpf_rdiv_int_ok (m := m) H n kt htm (p := p) (by omega) hp2 hn (by omega) J (by omega) (by omega) (by omega) hD hN hDe
      rw [← hEE] at q2
      exact st_ret (e_callx (ds := [.int n, t, .int p, .str (mch m)]) (by ktr_unf) ⟨d, q1.more (by omega), q2⟩)
end
end Mine

end

section
open PySem PySem.Calls
set_option maxRecDepth 100000
set_option linter.unusedVariables false
set_option linter.unusedSimpArgs false
namespace Mine
local macro_rules
  | `(tactic| ktr_unf) => `(tactic| simp only [wpT, wpE, wpEs, wpTr, truthD, wpBin, optP, cmpD, itemD, eq4, setAll, List.map_cons, List.map_nil, List.reverse_cons, List.reverse_nil, List.nil_append, List.cons_append, List.getElem?_cons_zero, List.getElem?_cons_succ, List.set_cons_zero, List.set_cons_succ, Option.some.injEq, PyData.int.injEq, PyData.bool.injEq, PyData.tuple.injEq, PyData.str.injEq, decide_eq_true_eq, Bool.not_eq_true', decide_eq_false_iff_not, num])
local macro_rules
  | `(tactic| ktr_rel) => `(tactic| (simp only [setAll, List.reverse_cons, List.reverse_nil, List.nil_append, List.cons_append, List.set_cons_zero, List.set_cons_succ]; rfl))

theorem Nu.abs {E X : Int} {d : D} {a : Nat} (h : Nu E X d) (ha : 2040 ≤ a) : X.natAbs ≤ 2 ^ a := by
  obtain ⟨sg, man, exp, k, hb, l1, l2, hE⟩ := h
  rw [k.natAbs]
  have h1 := PySem.intBits_le_iff.mp hb
  have h2 : 2 ^ 31 * 2 ^ (exp + E).toNat ≤ 2 ^ a := by
    rw [← Nat.pow_add]
    exact Nat.pow_le_pow_right (by omega) (by omega)
  exact Nat.le_trans (Nat.mul_le_mul_right _ (Nat.le_of_lt h1)) h2
def Bd (C : Cut) (K : Nat) : Prop := C.L (-(2 ^ K)) ∧ C.U (2 ^ K)
theorem abs_le {x : Int} {K : Nat} (h : x.natAbs ≤ 2 ^ K) : -(2 ^ K) ≤ x ∧ x ≤ 2 ^ K := by
  have : ((2 ^ K : Nat) : Int) = 2 ^ K := PySem.W.kbt_cast K
  omega
theorem bd_ex {x : Int} {K : Nat} (h : x.natAbs ≤ 2 ^ K) : Bd (ex x) K := abs_le h
theorem bd_div {N Dn : Int} (hD : 0 < Dn) {K : Nat} (h : N.natAbs ≤ 2 ^ K) : Bd (divc N Dn hD) K := by
  have h1 := abs_le h
  have h2 := pow_pos2 K
  have h3 : (2 : Int) ^ K * 1 ≤ 2 ^ K * Dn := Int.mul_le_mul_of_nonneg_left (by omega) (by omega)
  constructor
  · show -(2 ^ K) * Dn ≤ N
    rw [Int.neg_mul]; omega
  · show N ≤ 2 ^ K * Dn
    omega
theorem bd_sq {S : Int} (hS : 0 ≤ S) {K : Nat} (h : S.natAbs ≤ 2 ^ K) : Bd (sqc S hS) K := by
  have h1 := abs_le h
  have h2 := pow_pos2 K
  have h3 : (2 : Int) ^ K * 1 ≤ 2 ^ K * 2 ^ K := Int.mul_le_mul_of_nonneg_left (by omega) (by omega)
  exact ⟨.inl (by omega), by omega, by omega⟩
theorem mul_abs {x y : Int} {a b K : Nat} (hx : x.natAbs ≤ 2 ^ a) (hy : y.natAbs ≤ 2 ^ b) (h : a + b ≤ K) : (x * y).natAbs ≤ 2 ^ K := by
  rw [Int.natAbs_mul]
  refine Nat.le_trans (Nat.mul_le_mul hx hy) ?_
  rw [← Nat.pow_add]
  exact Nat.pow_le_pow_right (by omega) h
theorem pow_abs (J : Nat) : ((2 : Int) ^ J).natAbs ≤ 2 ^ J := by rw [Int.natAbs_pow]; exact Nat.le_refl _
theorem Val.bd {kind E n : Int} {s t : D} {C : Cut} (h : Val kind E s t n C) {K : Nat} (hK : 20000 ≤ K) : Bd C K := by
  obtain ⟨hn, hE, h⟩ := h
  obtain ⟨a, ha⟩ : ∃ a : Nat, a = 2040 := ⟨_, rfl⟩
  have hna : n.natAbs ≤ 2 ^ a := Nat.le_trans (Nat.le_of_lt (PySem.intBits_le_iff.mp hn)) (Nat.pow_le_pow_right (by omega) (by omega))
  have two : ∀ {x y : Int}, x.natAbs ≤ 2 ^ a → y.natAbs ≤ 2 ^ a → (x + y).natAbs ≤ 2 ^ K ∧ (x - y).natAbs ≤ 2 ^ K := fun hx hy => by
    have : 2 ^ (a + 1) ≤ 2 ^ K := Nat.pow_le_pow_right (by omega) (by omega)
    rw [Nat.pow_succ] at this
    omega
  rcases h with ⟨_, X, Y, hX, hY, rfl⟩ | ⟨_, X, Y, hX, hY, rfl⟩ | ⟨_, E1, E2, X, Y, _, hX, hY, rfl⟩ | ⟨_, E1, E2, X, Y, J, N, Dn, hD, _, hX, hY, _, hJ, hJ2, hN, hDe, rfl⟩ | ⟨_, E1, X, J, S, hS, _, hX, hJ, hJ2, hSe, rfl⟩ | ⟨_, X, hX, rfl⟩ | ⟨_, E2, Y, J, N, Dn, hD, _, hY, _, hJ, hJ2, hN, hDe, rfl⟩
  · exact bd_ex (two (hX.abs (by omega)) (hY.abs (by omega))).1
  · exact bd_ex (two (hX.abs (by omega)) (hY.abs (by omega))).2
  · exact bd_ex (mul_abs (hX.abs (a := a) (by omega)) (hY.abs (a := a) (by omega)) (by omega))
  · refine bd_div hD ?_
    have := mul_abs (K := K) (hX.abs (a := a) (by omega)) (pow_abs J) (by omega)
    rw [hN]; split
    · exact this
    · rw [Int.natAbs_neg]; exact this
  · refine bd_sq hS ?_
    rw [hSe]
    refine mul_abs (a := a) ?_ (pow_abs J) (by omega)
    have := hX.abs (a := a) (by omega)
    split
    · exact this
    · rw [Int.natAbs_neg]; exact this
  · exact bd_ex (mul_abs (hX.abs (a := a) (by omega)) hna (by omega))
  · refine bd_div hD ?_
    have := mul_abs (K := K) hna (pow_abs J) (by omega)
    rw [hN]; split
    · exact this
    · rw [Int.natAbs_neg]; exact this
theorem Rnd.bd {p K : Nat} {C : Cut} {r : Int} {m : Mode} (hK : 1 ≤ K) (hb : Bd C K) (h : Rnd p C r m) : r.natAbs ≤ 2 ^ K := by
  have c : ((2 ^ K : Nat) : Int) = 2 ^ K := PySem.W.kbt_cast K
  have hp := pow_pos2 p
  have e1 : (2 : Int) ^ K = 1 * 2 ^ (K - 1 + 1) := by rw [Int.one_mul]; congr 1; omega
  have hf : Fits p ((2 : Int) ^ K) := ⟨1, K - 1, e1, by omega, by omega⟩
  have h1 : r ≤ 2 ^ K := h.le (D := Mine.ex (2 ^ K)) ⟨fun X hX => C.sep hX hb.2, fun X hX => C.Uu hb.2 hX⟩ (Rnd.ex hf m)
  have h2 : -(2 ^ K) ≤ r := (Rnd.ex hf.neg m).le (C := Mine.ex (-(2 ^ K))) (D := C) ⟨fun X hX => C.Ld hb.1 hX, fun X hX => C.sep hb.1 hX⟩ h
  omega
theorem Fits.man {p : Nat} {E r : Int} {d : D} {sg man exp : Int} (h : Fits p r) (k : Pt E r d sg man exp) : Builtin.Int.intBits man ≤ p + 1 := by
  obtain ⟨A, j, e, h1, h2⟩ := h
  have hp := pow_pos2 p
  by_cases hz : man = 0
  · rw [hz]; simp [bits_zero]
  · have hm : 0 < man := by have := k.hman; omega
    have hr : r ≠ 0 := by
      rw [k.hX]
      exact Int.mul_ne_zero (sv_ne hm) (Int.ne_of_gt (pow_pos2 _))
    have hA : A ≠ 0 := fun q => hr (by rw [e, q, Int.zero_mul])
    obtain ⟨q, i, e2, hq⟩ := odd_ex hA
    have e3 : q * 2 ^ (i + (j + 1)) = sv sg man * 2 ^ (exp + E).toNat := by rw [← k.hX, e, e2, pow_add2, Int.mul_assoc]
    have := (odd_uniq hq (sv_odd (k.hodd hz)) e3).2
    have h3 : man.natAbs = q.natAbs := by rw [this, natAbs_sv]
    have h4 : q.natAbs ≤ A.natAbs := by
      rw [e2, Int.natAbs_mul]
      refine Nat.le_mul_of_pos_right _ ?_
      rw [Int.natAbs_pow]; exact Nat.two_pow_pos i
    refine PySem.intBits_le_iff.mpr ?_
    have c : ((2 ^ p : Nat) : Int) = 2 ^ p := PySem.W.kbt_cast p
    rw [Nat.pow_succ]
    have : 0 < 2 ^ p := Nat.two_pow_pos p
    omega

section
variable {W : Wd} {P : Params}
/-- what is done, with its bounds -/
theorem done_b (H : Here W P) {kind E n : Int} {s t : D} {C : Cut} {p : Nat} (m : Mode) (h : Val kind E s t n C) (hp : 30 ≤ p) (hp2 : p ≤ 990) :
    ∃ d, Ok W 6 ("_law_done" : Str) [.int kind, s, t, .int n, .int p, .str (mch m)] d ∧ ∃ r, Is E r d ∧ Rnd p C r m ∧ r.natAbs < 2 ^ 100000 ∧ ∃ sg man exp, Pt E r d sg man exp ∧ Builtin.Int.intBits man ≤ 1000 ∧ exp + E ≤ 30000 := by
  obtain ⟨d, h1, r, h2, h3⟩ := done_ok H m h hp (by omega)
  obtain ⟨K, hK⟩ : ∃ K : Nat, K = 20000 := ⟨_, rfl⟩
  have hb := h3.bd (K := K) (by omega) (h.bd (by omega))
  obtain ⟨sg, man, exp, k⟩ := h2.pt (by have := h.2.1; omega)
  have hbm := h3.fits.man k
  refine ⟨d, h1, r, h2, h3, Nat.lt_of_le_of_lt hb (Nat.pow_lt_pow_right (by omega) (by omega)), sg, man, exp, k, by omega, ?_⟩
  have hE := h.2.1
  by_cases hz : man = 0
  · have := (k.hz hz).2
    omega
  · have := (k.bits (K := K + 1) (Nat.lt_of_le_of_lt hb (Nat.pow_lt_pow_right (by omega) (by omega)))).2 hz
    have := bits_pos (x := man) (by have := k.hman; omega)
    omega
end
end Mine

end

section
open PySem PySem.Calls
set_option maxRecDepth 100000
set_option linter.unusedVariables false
set_option linter.unusedSimpArgs false
namespace Mine
local macro_rules
  | `(tactic| ktr_unf) => `(tactic| simp only [wpT, wpE, wpEs, wpTr, truthD, wpBin, optP, cmpD, itemD, eq4, setAll, List.map_cons, List.map_nil, List.reverse_cons, List.reverse_nil, List.nil_append, List.cons_append, List.getElem?_cons_zero, List.getElem?_cons_succ, List.set_cons_zero, List.set_cons_succ, Option.some.injEq, PyData.int.injEq, PyData.bool.injEq, PyData.tuple.injEq, PyData.str.injEq, decide_eq_true_eq, Bool.not_eq_true', decide_eq_false_iff_not, num])
local macro_rules
  | `(tactic| ktr_rel) => `(tactic| (simp only [setAll, List.reverse_cons, List.reverse_nil, List.nil_append, List.cons_append, List.set_cons_zero, List.set_cons_succ]; rfl))

theorem nu_parts {X : Int} {s : D} (h : Nu 1500 X s) : True := trivial
theorem val_all {kind n X Y : Int} {s t : D} (hk : 0 ≤ kind ∧ kind ≤ 6) (hn : Builtin.Int.intBits n ≤ 1000) (hX : Nu 1500 X s) (hY : Nu 1500 Y t) (hz : kind = 3 ∨ kind = 6 → Y ≠ 0) :
    ∃ E C, Val kind E s t n C ∧ ∀ b : Int, -50 ≤ b → b ≤ 50 →
      (kind < 2 → ∀ s' t', Nu (1500 - b) X s' → Nu (1500 - b) Y t' → Val kind (E - b) s' t' n C) ∧
      (kind = 4 → ∀ s', Nu (1500 - 2 * b) X s' → Val kind (E - b) s' t n C) ∧
      (kind = 6 → ∀ t', Nu (1500 - -b) Y t' → Val kind (E - b) s t' n C) ∧
      (kind = 2 ∨ kind = 3 ∨ kind = 5 → ∀ s', Nu (1500 - b) X s' → Val kind (E - b) s' t n C) := by
  have hD : kind = 3 ∨ kind = 6 → 0 < (if 0 < Y then Y else -Y) := fun h => by have := hz h; split <;> omega
  rcases (show kind = 0 ∨ kind = 1 ∨ kind = 2 ∨ kind = 3 ∨ kind = 4 ∨ kind = 5 ∨ kind = 6 by omega) with rfl | rfl | rfl | rfl | rfl | rfl | rfl
  · refine ⟨1500, _, ⟨hn, by omega, .inl ⟨rfl, X, Y, hX, hY, rfl⟩⟩, fun b b1 b2 => ⟨fun _ s' t' h1 h2 => ⟨hn, by omega, .inl ⟨rfl, X, Y, h1, h2, rfl⟩⟩, fun h => by omega, fun h => by omega, fun h => by omega⟩⟩
  · refine ⟨1500, _, ⟨hn, by omega, .inr (.inl ⟨rfl, X, Y, hX, hY, rfl⟩)⟩, fun b b1 b2 => ⟨fun _ s' t' h1 h2 => ⟨hn, by omega, .inr (.inl ⟨rfl, X, Y, h1, h2, rfl⟩)⟩, fun h => by omega, fun h => by omega, fun h => by omega⟩⟩
  · refine ⟨3000, _, ⟨hn, by omega, .inr (.inr (.inl ⟨rfl, 1500, 1500, X, Y, by omega, hX, hY, rfl⟩))⟩, fun b b1 b2 => ⟨fun h => by omega, fun h => by omega, fun h => by omega, fun _ s' h1 => ⟨hn, by omega, .inr (.inr (.inl ⟨rfl, 1500 - b, 1500, X, Y, by omega, h1, hY, rfl⟩))⟩⟩⟩
  · refine ⟨5000, _, ⟨hn, by omega, .inr (.inr (.inr (.inl ⟨rfl, 1500, 1500, X, Y, 5000, _, _, hD (.inl rfl), by omega, hX, hY, hz (.inl rfl), by omega, by omega, rfl, rfl, rfl⟩)))⟩, fun b b1 b2 => ⟨fun h => by omega, fun h => by omega, fun h => by omega, fun _ s' h1 => ⟨hn, by omega, .inr (.inr (.inr (.inl ⟨rfl, 1500 - b, 1500, X, Y, 5000, _, _, hD (.inl rfl), by omega, h1, hY, hz (.inl rfl), by omega, by omega, rfl, rfl, rfl⟩)))⟩⟩⟩
  · have hS : 0 ≤ (if 0 ≤ X then X else -X) * 2 ^ 5000 := Int.mul_nonneg (by split <;> omega) (by have := pow_pos2 5000; omega)
    refine ⟨3250, _, ⟨hn, by omega, .inr (.inr (.inr (.inr (.inl ⟨rfl, 1500, X, 5000, _, hS, by omega, hX, by omega, by omega, rfl, rfl⟩))))⟩, fun b b1 b2 => ⟨fun h => by omega, fun _ s' h1 => ⟨hn, by omega, .inr (.inr (.inr (.inr (.inl ⟨rfl, 1500 - 2 * b, X, 5000, _, hS, by omega, h1, by omega, by omega, rfl, rfl⟩))))⟩, fun h => by omega, fun h => by omega⟩⟩
  · refine ⟨1500, _, ⟨hn, by omega, .inr (.inr (.inr (.inr (.inr (.inl ⟨rfl, X, hX, rfl⟩)))))⟩, fun b b1 b2 => ⟨fun h => by omega, fun h => by omega, fun h => by omega, fun _ s' h1 => ⟨hn, by omega, .inr (.inr (.inr (.inr (.inr (.inl ⟨rfl, X, h1, rfl⟩)))))⟩⟩⟩
  · refine ⟨4500, _, ⟨hn, by omega, .inr (.inr (.inr (.inr (.inr (.inr ⟨rfl, 1500, Y, 6000, _, _, hD (.inr rfl), by omega, hY, hz (.inr rfl), by omega, by omega, rfl, rfl, rfl⟩)))))⟩, fun b b1 b2 => ⟨fun h => by omega, fun h => by omega, fun _ t' h1 => ⟨hn, by omega, .inr (.inr (.inr (.inr (.inr (.inr ⟨rfl, 1500 - -b, Y, 6000, _, _, hD (.inr rfl), by omega, h1, hz (.inr rfl), by omega, by omega, rfl, rfl, rfl⟩)))))⟩, fun h => by omega⟩⟩

theorem div_le {N N' Dn : Int} (hD : 0 < Dn) (h : N ≤ N') : (divc N Dn hD).le (divc N' Dn hD) := ⟨fun V hV => Int.le_trans hV h, fun V hV => Int.le_trans h hV⟩
theorem sq_cle {S S' : Int} (hS : 0 ≤ S) (hS' : 0 ≤ S') (h : S ≤ S') : (sqc S hS).le (sqc S' hS') := ⟨fun V hV => hV.elim .inl fun q => .inr (Int.le_trans q h), fun V hV => ⟨hV.1, Int.le_trans h hV.2⟩⟩
theorem ex_le {x y : Int} (h : x ≤ y) : (ex x).le (ex y) := ⟨fun V hV => Int.le_trans hV h, fun V hV => Int.le_trans h hV⟩
/-- the answer goes up, or down, with the first operand -/
theorem ord_all {kind n Y : Int} {t : D} (hk : 0 ≤ kind ∧ kind ≤ 5) (hn : Builtin.Int.intBits n ≤ 1000) (hY : Nu 1500 Y t) (hz : kind = 3 → Y ≠ 0) :
    ∃ (E : Int) (F : Int → Cut), (∀ X s, Nu 1500 X s → Val kind E s t n (F X)) ∧ ∀ X X', X ≤ X' → (kind = 4 → 0 ≤ X) →
      (((kind = 2 ∨ kind = 3 → 0 ≤ Y) ∧ (kind = 5 → 0 ≤ n)) → (F X).le (F X')) ∧ ((((kind = 2 ∨ kind = 3) ∧ Y < 0) ∨ (kind = 5 ∧ n < 0)) → (F X').le (F X)) := by
  have hD : kind = 3 → 0 < (if 0 < Y then Y else -Y) := fun h => by have := hz h; split <;> omega
  rcases (show kind = 0 ∨ kind = 1 ∨ kind = 2 ∨ kind = 3 ∨ kind = 4 ∨ kind = 5 by omega) with rfl | rfl | rfl | rfl | rfl | rfl
  · exact ⟨1500, fun X => ex (X + Y), fun X s hX => ⟨hn, by omega, .inl ⟨rfl, X, Y, hX, hY, rfl⟩⟩, fun X X' h _ => ⟨fun _ => ex_le (by omega), fun q => by omega⟩⟩
  · exact ⟨1500, fun X => ex (X - Y), fun X s hX => ⟨hn, by omega, .inr (.inl ⟨rfl, X, Y, hX, hY, rfl⟩)⟩, fun X X' h _ => ⟨fun _ => ex_le (by omega), fun q => by omega⟩⟩
  · exact ⟨3000, fun X => ex (X * Y), fun X s hX => ⟨hn, by omega, .inr (.inr (.inl ⟨rfl, 1500, 1500, X, Y, by omega, hX, hY, rfl⟩))⟩, fun X X' h _ => ⟨fun q => ex_le (Int.mul_le_mul_of_nonneg_right h (q.1 (.inl rfl))), fun q => ex_le (Int.mul_le_mul_of_nonpos_right h (by omega))⟩⟩
  · refine ⟨5000, fun X => divc (if 0 < Y then X * 2 ^ 5000 else -(X * 2 ^ 5000)) _ (hD rfl), fun X s hX => ⟨hn, by omega, .inr (.inr (.inr (.inl ⟨rfl, 1500, 1500, X, Y, 5000, _, _, hD rfl, by omega, hX, hY, hz rfl, by omega, by omega, rfl, rfl, rfl⟩)))⟩, fun X X' h _ => ?_⟩
    have h5 : X * 2 ^ 5000 ≤ X' * 2 ^ 5000 := Int.mul_le_mul_of_nonneg_right h (by have := pow_pos2 5000; omega)
    have := hz rfl
    refine ⟨fun q => div_le _ ?_, fun q => div_le _ ?_⟩
    · have := q.1 (.inr rfl)
      rw [if_pos (by omega), if_pos (by omega)]; exact h5
    · rw [if_neg (by omega), if_neg (by omega)]; exact Int.neg_le_neg h5
  · have h0 : ∀ X : Int, 0 ≤ (if 0 ≤ X then X else -X) * 2 ^ 5000 := fun X => Int.mul_nonneg (by split <;> omega) (by have := pow_pos2 5000; omega)
    refine ⟨3250, fun X => sqc _ (h0 X), fun X s hX => ⟨hn, by omega, .inr (.inr (.inr (.inr (.inl ⟨rfl, 1500, X, 5000, _, h0 X, by omega, hX, by omega, by omega, rfl, rfl⟩))))⟩, fun X X' h h4 => ⟨fun _ => sq_cle _ _ ?_, fun q => by omega⟩⟩
    have := h4 rfl
    refine Int.mul_le_mul_of_nonneg_right ?_ (by have := pow_pos2 5000; omega)
    rw [if_pos (by omega), if_pos (by omega)]; exact h
  · exact ⟨1500, fun X => ex (X * n), fun X s hX => ⟨hn, by omega, .inr (.inr (.inr (.inr (.inr (.inl ⟨rfl, X, hX, rfl⟩)))))⟩, fun X X' h _ => ⟨fun q => ex_le (Int.mul_le_mul_of_nonneg_right h (q.2 rfl)), fun q => ex_le (Int.mul_le_mul_of_nonpos_right h (by omega))⟩⟩

theorem eq_num {E r : Int} {d : D} (h : Is E r d) : cmpD .Eq d d = some true := by
  rcases h with ⟨_, rfl⟩ | ⟨a, b, c, _, _, _, _, rfl, _⟩
  · rfl
  · simp [cmpD, num, eq4]
theorem neq_num {E r : Int} {d : D} (h : Is E r d) : cmpD .NotEq d d = some false := by
  rcases h with ⟨_, rfl⟩ | ⟨a, b, c, _, _, _, _, rfl, _⟩
  · rfl
  · simp [cmpD, num, eq4]
theorem e_cmp {ok : Str → List D → D → Prop} {ρ : Rho} {op : CmpOp} {l r : ME} {a b : D} {c : Bool} {P : D → Prop} (h1 : wpE ok ρ l (· = a)) (h2 : wpE ok ρ r (· = b)) (h3 : cmpD op a b = some c) (h4 : P (.bool c)) : wpE ok ρ (.cmp op l r) P := by
  unfold wpE
  refine wpE_mono l (fun x hx => ?_) h1
  subst hx
  refine wpE_mono r (fun y hy => ?_) h2
  subst hy
  rw [h3]
  exact h4
theorem e_ife {ok : Str → List D → D → Prop} {ρ : Rho} {c t f : ME} {A : Prop} {P : D → Prop} (h : wpT ok ρ c (fun b => b = true ↔ A)) (h1 : A → wpE ok ρ t P) (h2 : ¬A → wpE ok ρ f P) : wpE ok ρ (.ife c t f) P := by
  unfold wpT at h
  unfold wpE
  refine wpE_mono c (fun d hd => wpTr_mono (fun b _ q => ⟨fun e => h1 (q.mp e), fun e => h2 fun z => ?_⟩) hd) h
  rw [q.mpr z] at e; cases e

section
variable {W : Wd} {P : Params}
theorem shift_nu (H : Here W P) {E X : Int} {s : D} (b : Int) (h : Nu E X s) (h1 : 1000 ≤ E - b) (h2 : E - b ≤ 2000) : ∃ d, Ok W 1 ("mpf_shift" : Str) [s, .int b] d ∧ Nu (E - b) X d := by
  obtain ⟨sg, man, exp, k, hb, l1, l2, hE⟩ := h
  have := k.hd
  subst this
  refine ⟨_, mpf_shift_ok H, ?_⟩
  by_cases z : man = 0
  · rw [if_pos z]
    obtain ⟨e1, e2⟩ := k.hz z
    exact ⟨sg, man, exp, ⟨rfl, k.hsg, k.hman, by omega, by rw [k.hX, z]; unfold sv; simp, k.hz, k.hodd⟩, hb, by omega, by omega, by omega⟩
  · rw [if_neg z]
    exact ⟨sg, man, exp + b, ⟨rfl, k.hsg, k.hman, by omega, by rw [k.hX, show exp + b + (E - b) = exp + E by omega], fun q => absurd q z, k.hodd⟩, hb, by omega, by omega, by omega⟩

theorem moved_ok (H : Here W P) {kind n X Y b : Int} {s t : D} {p : Nat} (m : Mode) (hk : 0 ≤ kind ∧ kind ≤ 6) (hn : Builtin.Int.intBits n ≤ 1000) (hX : Nu 1500 X s) (hY : Nu 1500 Y t) (hz : kind = 3 ∨ kind = 6 → Y ≠ 0) (hp : 30 ≤ p) (hp2 : p ≤ 990) (b1 : -50 ≤ b) (b2 : b ≤ 50) :
    Ok W 7 ("_law_moved_right" : Str) [.int kind, s, t, .int n, .int p, .str (mch m), .int b] (.bool true) := by
  obtain ⟨E, C, hv, hmv⟩ := val_all hk hn hX hY hz
  obtain ⟨v1, v2, v3, v4⟩ := hmv b b1 b2
  obtain ⟨d1, f1, r1, g1, g2, _⟩ := done_b H m hv hp hp2
  obtain ⟨due, f2, g3⟩ := shift_is H b g1
  refine fn_ok H 7 (k_law_moved_right P) (by kernel_rfl) (bnd_law_moved_right_7 H.K _ _ _ _ _ _ _) rfl (by decide) ?_
  show wpSs _ [some (.int kind), some s, some t, some (.int n), some (.int p), some (.str (mch m)), some (.int b), none] b_law_moved_right _ _
  unfold b_law_moved_right
  refine st_asg (x := due) (e_call (ds := [d1, .int b]) (es_cons (e_call (ds := [.int kind, s, t, .int n, .int p, .str (mch m)]) (by ktr_unf) f1 rfl) (es_cons (x := .int b) (by ktr_unf) (es_nil rfl))) (f2.more (by omega)) rfl) (by ktr_rel) ?_
  -- the same whole number, moved
  have fin : ∀ {s' t' : D}, Val kind (E - b) s' t' n C → Ok W 6 ("_law_done" : Str) [.int kind, s', t', .int n, .int p, .str (mch m)] due := by
    intro s' t' hv'
    obtain ⟨d2, f3, r2, g4, g5, _⟩ := done_b H m hv' hp hp2
    have : r2 = r1 := g5.uniq g2
    rw [this] at g4
    rw [← g4.uniq g3]
    exact f3
  have last : ∀ {e : ME}, wpE (Ok W 6) [some (.int kind), some s, some t, some (.int n), some (.int p), some (.str (mch m)), some (.int b), some due] e (· = due) → wpSs (Ok W 6) [some (.int kind), some s, some t, some (.int n), some (.int p), some (.str (mch m)), some (.int b), some due] [.ret (.cmp .Eq e (.loc 7))] (fun _ => False) (· = .bool true) := fun h =>
    st_ret (e_cmp h (by ktr_unf) (eq_num g3) rfl)
  refine st_ite (C := kind < 2) (by ktr_unf) (fun z => ?_) (fun z => st_nil ?_)
  · obtain ⟨s', k1, k2⟩ := shift_nu H b hX (by omega) (by omega)
    obtain ⟨t', k3, k4⟩ := shift_nu H b hY (by omega) (by omega)
    refine last (e_call (ds := [.int kind, s', t', .int n, .int p, .str (mch m)]) ?_ (fin (v1 z s' t' k2 k4)) rfl)
    exact es_cons (x := .int kind) (by ktr_unf) (es_cons (e_call (ds := [s, .int b]) (by ktr_unf) (k1.more (by omega)) rfl) (es_cons (e_call (ds := [t, .int b]) (by ktr_unf) (k3.more (by omega)) rfl) (es_cons (x := .int n) (by ktr_unf) (es_cons (x := .int p) (by ktr_unf) (es_cons (x := .str (mch m)) (by ktr_unf) (es_nil rfl))))))
  refine st_ite (C := kind = 4) (by ktr_unf) (fun z => ?_) (fun z4 => st_nil ?_)
  · obtain ⟨s', k1, k2⟩ := shift_nu H (2 * b) hX (by omega) (by omega)
    refine last (e_call (ds := [.int kind, s', t, .int n, .int p, .str (mch m)]) ?_ (fin (v2 z s' k2)) rfl)
    exact es_cons (x := .int kind) (by ktr_unf) (es_cons (e_call (ds := [s, .int (2 * b)]) (by ktr_unf; exact ⟨IntMulOk.of_left (by decide), trivial⟩) (k1.more (by omega)) rfl) (es_cons (x := t) (by ktr_unf) (es_cons (x := .int n) (by ktr_unf) (es_cons (x := .int p) (by ktr_unf) (es_cons (x := .str (mch m)) (by ktr_unf) (es_nil rfl))))))
  refine st_ite (C := kind = 6) (by ktr_unf) (fun z => ?_) (fun z6 => st_nil ?_)
  · obtain ⟨t', k1, k2⟩ := shift_nu H (-b) hY (by omega) (by omega)
    refine last (e_call (ds := [.int kind, s, t', .int n, .int p, .str (mch m)]) ?_ (fin (v3 z t' k2)) rfl)
    exact es_cons (x := .int kind) (by ktr_unf) (es_cons (x := s) (by ktr_unf) (es_cons (e_call (ds := [t, .int (-b)]) (by ktr_unf) (k1.more (by omega)) rfl) (es_cons (x := .int n) (by ktr_unf) (es_cons (x := .int p) (by ktr_unf) (es_cons (x := .str (mch m)) (by ktr_unf) (es_nil rfl))))))
  · obtain ⟨s', k1, k2⟩ := shift_nu H b hX (by omega) (by omega)
    refine last (e_call (ds := [.int kind, s', t, .int n, .int p, .str (mch m)]) ?_ (fin (v4 (by omega) s' k2)) rfl)
    exact es_cons (x := .int kind) (by ktr_unf) (es_cons (e_call (ds := [s, .int b]) (by ktr_unf) (k1.more (by omega)) rfl) (es_cons (x := t) (by ktr_unf) (es_cons (x := .int n) (by ktr_unf) (es_cons (x := .int p) (by ktr_unf) (es_cons (x := .str (mch m)) (by ktr_unf) (es_nil rfl))))))
end
end Mine

end

section
open PySem PySem.Calls
set_option maxRecDepth 100000
set_option linter.unusedVariables false
set_option linter.unusedSimpArgs false
namespace Mine
local macro_rules
  | `(tactic| ktr_unf) => `(tactic| simp only [wpT, wpE, wpEs, wpTr, truthD, wpBin, optP, cmpD, itemD, eq4, setAll, List.map_cons, List.map_nil, List.reverse_cons, List.reverse_nil, List.nil_append, List.cons_append, List.getElem?_cons_zero, List.getElem?_cons_succ, List.set_cons_zero, List.set_cons_succ, Option.some.injEq, PyData.int.injEq, PyData.bool.injEq, PyData.tuple.injEq, PyData.str.injEq, decide_eq_true_eq, Bool.not_eq_true', decide_eq_false_iff_not, num])
local macro_rules
  | `(tactic| ktr_rel) => `(tactic| (simp only [setAll, List.reverse_cons, List.reverse_nil, List.nil_append, List.cons_append, List.set_cons_zero, List.set_cons_succ]; rfl))

section
variable {W : Wd} {P : Params}
theorem pt0_nu {E X : Int} {d : D} {man exp : Int} (k : Pt E X d 0 man exp) (hb : Builtin.Int.intBits man ≤ 31) (h1 : 1000 ≤ exp + E) (h2 : exp + E ≤ 2000) (hE : 1 ≤ E) : Nu E X d := ⟨0, man, exp, k, hb, h1, h2, hE⟩
theorem order_ok (H : Here W P) {kind n X X' Y : Int} {s o t : D} {p : Nat} (m : Mode) (hk : 0 ≤ kind ∧ kind ≤ 5) (hn : Builtin.Int.intBits n ≤ 1000) (hX : Nu 1500 X s) (hX' : Nu 1500 X' o) (hY : Nu 1500 Y t) (hz : kind = 3 → Y ≠ 0) (hp : 30 ≤ p) (hp2 : p ≤ 990) :
    Ok W 8 ("_law_order_right" : Str) [.int kind, s, o, t, .int n, .int p, .str (mch m)] (.bool true) := by
  obtain ⟨E, F, hv, hle⟩ := ord_all hk hn hY hz
  refine fn_ok H 7 (k_law_order_right P) (by kernel_rfl) (bnd_law_order_right_7 H.K _ _ _ _ _ _ _) rfl (by decide) ?_
  show wpSs _ [some (.int kind), some s, some o, some t, some (.int n), some (.int p), some (.str (mch m)), none, none] b_law_order_right _ _
  unfold b_law_order_right
  -- the end: low and high are done, in order
  have fin : ∀ (s o lo hi : D) (C C' : Cut), Val kind E lo t n C → Val kind E hi t n C' → C.le C' → wpSs (Ok W 7) [some (.int kind), some s, some o, some t, some (.int n), some (.int p), some (.str (mch m)), some lo, some hi] [.ret (.call ("mpf_le" : Str) [(.call ("_law_done" : Str) [(.loc 0), (.loc 7), (.loc 3), (.loc 4), (.loc 5), (.loc 6)]), (.call ("_law_done" : Str) [(.loc 0), (.loc 8), (.loc 3), (.loc 4), (.loc 5), (.loc 6)])])] (fun _ => False) (· = .bool true) := by
    intro s o lo hi C C' h1 h2 h3
    obtain ⟨d1, f1, r1, g1, g2, _, sg, man, exp, k1, q1, q2⟩ := done_b H m h1 hp hp2
    obtain ⟨d2, f2, r2, g3, g4, _, sg', man', exp', k2, q3, q4⟩ := done_b H m h2 hp hp2
    have hr : r1 ≤ r2 := g2.le h3 g4
    have hE := h1.2.1
    have e1 := k1.hexp
    have e2 := k2.hexp
    have hl := mpf_le_ok H k1 k2 (by omega) q1 q3 (by omega) (by omega)
    rw [decide_eq_true hr] at hl
    refine st_ret (e_call (ds := [d1, d2]) ?_ hl rfl)
    refine es_cons (e_call (ds := [.int kind, lo, t, .int n, .int p, .str (mch m)]) (by ktr_unf) (f1.more (by omega)) rfl) (es_cons (e_call (ds := [.int kind, hi, t, .int n, .int p, .str (mch m)]) (by ktr_unf) (f2.more (by omega)) rfl) (es_nil rfl))
  -- the swaps
  have swaps : ∀ (s o lo hi : D) (x x' : Int), Nu 1500 x lo → Nu 1500 x' hi → x ≤ x' → (kind = 4 → 0 ≤ x) → wpSs (Ok W 7) [some (.int kind), some s, some o, some t, some (.int n), some (.int p), some (.str (mch m)), some lo, some hi] (b_law_order_right.drop 2) (fun _ => False) (· = .bool true) := by
    intro s o lo hi x x' h1 h2 h3 h4
    show wpSs _ _ [MS.ite _ _ _, MS.ite _ _ _, MS.ret _] _ _
    obtain ⟨up, dwn⟩ := hle x x' h3 h4
    obtain ⟨tg, tm, te, kt, b2, l2, u2, E2⟩ := hY
    have hsY : (if tm = 0 then (0 : Int) else if tg = 0 then 1 else -1) < 0 ↔ Y < 0 := by
      have p2 := pow_pos2 (te + 1500).toNat
      by_cases z : tm = 0
      · rw [if_pos z, kt.hX, z]; unfold sv; simp
      · have ht : 0 < tm := by have := kt.hman; omega
        have p3 := Int.mul_pos ht p2
        rw [if_neg z, kt.hX]
        rcases kt.hsg with h | h
        · rw [if_pos h, h, sv_0]; constructor <;> omega
        · rw [if_neg (by omega), h, sv_1, Int.neg_mul]; constructor <;> omega
    have hsign := mpf_sign_ok H (sg := tg) (man := tm) (exp := te) (bc := Builtin.Int.intBits tm) kt.hsg (fun q => (kt.hz q).2)
    rw [← kt.hd] at hsign
    refine st_ite (C := kind = 2 ∨ kind = 3) (t_or (by ktr_unf) fun _ => (by ktr_unf)) (fun z => ?_) (fun z => st_nil ?_)
    · refine st_ite (C := Y < 0) (t_iff (t_cmp (a := .int (if tm = 0 then 0 else if tg = 0 then 1 else -1)) (b := .int 0) (e_call (ds := [t]) (by ktr_unf) (hsign.more (by omega)) rfl) (by ktr_unf) rfl Iff.rfl) (by rw [decide_eq_true_eq]; exact hsY)) (fun z1 => ?_) (fun z1 => ?_)
      · refine st_asgW (ds := [hi, lo]) (by ktr_unf) (by ktr_rel) (st_nil (st_nil ?_))
        refine st_ite (C := False) (t_iff (t_and (A := kind = 5) (B := n < 0) (by ktr_unf) fun _ => (by ktr_unf)) ⟨fun q => by omega, fun q => q.elim⟩) (fun z => z.elim) (fun _ => st_nil ?_)
        exact fin s o hi lo _ _ (hv _ _ h2) (hv _ _ h1) (dwn (.inl ⟨z, z1⟩))
      · refine st_nil (st_nil ?_)
        refine st_ite (C := False) (t_iff (t_and (A := kind = 5) (B := n < 0) (by ktr_unf) fun _ => (by ktr_unf)) ⟨fun q => by omega, fun q => q.elim⟩) (fun z => z.elim) (fun _ => st_nil ?_)
        exact fin s o lo hi _ _ (hv _ _ h1) (hv _ _ h2) (up ⟨fun _ => by omega, fun _ => by omega⟩)
    · refine st_ite (C := kind = 5 ∧ n < 0) (t_and (by ktr_unf) fun _ => (by ktr_unf)) (fun z1 => ?_) (fun z1 => st_nil ?_)
      · refine st_asgW (ds := [hi, lo]) (by ktr_unf) (by ktr_rel) (st_nil ?_)
        exact fin s o hi lo _ _ (hv _ _ h2) (hv _ _ h1) (dwn (.inr z1))
      · exact fin s o lo hi _ _ (hv _ _ h1) (hv _ _ h2) (up ⟨fun q => absurd q z, fun q => by omega⟩)
  -- the order
  have cmps : ∀ (s o : D) (x x' : Int), Nu 1500 x s → Nu 1500 x' o → (kind = 4 → 0 ≤ x ∧ 0 ≤ x') → wpSs (Ok W 7) [some (.int kind), some s, some o, some t, some (.int n), some (.int p), some (.str (mch m)), none, none] (b_law_order_right.drop 1) (fun _ => False) (· = .bool true) := by
    intro s o x x' h1 h2 h4
    show wpSs _ _ (MS.asgT _ _ :: b_law_order_right.drop 2) _ _
    have h1' := h1
    have h2' := h2
    obtain ⟨sg, man, exp, k1, c1, c2, c3, c4⟩ := h1'
    obtain ⟨sg', man', exp', k2, c5, c6, c7, c8⟩ := h2'
    obtain ⟨d, f1, c, rfl, f2⟩ := mpf_cmp_ok H k1 k2 (by omega) (by omega) (by omega) (by omega) (by omega)
    have ht : ∀ {ρ : Rho}, ρ = [some (.int kind), some s, some o, some t, some (.int n), some (.int p), some (.str (mch m)), none, none] → wpT (Ok W 7) ρ (.cmp .LtE (.call ("mpf_cmp" : Str) [(.loc 1), (.loc 2)]) (.int (0))) (fun b => b = true ↔ x ≤ x') := fun e => by
      subst e
      exact t_iff (t_cmp (a := .int c) (b := .int 0) (e_call (ds := [s, o]) (by ktr_unf) (f1.more (by omega)) rfl) (by ktr_unf) rfl Iff.rfl) (by rw [decide_eq_true_eq]; exact f2)
    by_cases z : x ≤ x'
    · refine st_asgT (ds := [s, o]) (e_ife (ht rfl) (fun _ => by ktr_unf) (fun q => absurd z q)) (by ktr_rel) ?_
      exact swaps s o s o x x' h1 h2 z (fun q => (h4 q).1)
    · refine st_asgT (ds := [o, s]) (e_ife (ht rfl) (fun q => absurd q z) (fun _ => by ktr_unf)) (by ktr_rel) ?_
      exact swaps s o o s x' x h2 h1 (by omega) (fun q => (h4 q).2)
  refine st_ite (C := kind = 4) (by ktr_unf) (fun z => ?_) (fun z => st_nil (cmps s o X X' hX hX' (fun q => absurd q z)))
  obtain ⟨s', a1, man, exp, k1, c1, c2, c3⟩ := abs_nu H hX
  obtain ⟨o', a2, man', exp', k2, c5, c6, c7⟩ := abs_nu H hX'
  refine st_asgW (ds := [s', o']) ?_ (by ktr_rel) (st_nil ?_)
  · exact es_cons (e_call (ds := [s]) (by ktr_unf) (a1.more (by omega)) rfl) (es_cons (e_call (ds := [o]) (by ktr_unf) (a2.more (by omega)) rfl) (es_nil rfl))
  · exact cmps s' o' _ _ (pt0_nu k1 c1 c2 c3 (by omega)) (pt0_nu k2 c5 c6 c7 (by omega)) (fun _ => by constructor <;> (split <;> omega))
end
end Mine

end

section
open PySem PySem.Calls
set_option maxRecDepth 100000
set_option linter.unusedVariables false
set_option linter.unusedSimpArgs false
namespace Mine
local macro_rules
  | `(tactic| ktr_unf) => `(tactic| simp only [wpT, wpE, wpEs, wpTr, truthD, wpBin, optP, cmpD, itemD, eq4, setAll, List.map_cons, List.map_nil, List.reverse_cons, List.reverse_nil, List.nil_append, List.cons_append, List.getElem?_cons_zero, List.getElem?_cons_succ, List.set_cons_zero, List.set_cons_succ, Option.some.injEq, PyData.int.injEq, PyData.bool.injEq, PyData.tuple.injEq, PyData.str.injEq, decide_eq_true_eq, Bool.not_eq_true', decide_eq_false_iff_not, num])
local macro_rules
  | `(tactic| ktr_rel) => `(tactic| (simp only [setAll, List.reverse_cons, List.reverse_nil, List.nil_append, List.cons_append, List.set_cons_zero, List.set_cons_succ]; rfl))

theorem src_fcdu : srcD (.text ⟨#[102, 99, 100, 117]⟩) = [.str (mch .f), .str (mch .c), .str (mch .d), .str (mch .u)] := rfl
theorem src_nfcdu : srcD (.text ⟨#[110, 102, 99, 100, 117]⟩) = [.str (mch .n), .str (mch .f), .str (mch .c), .str (mch .d), .str (mch .u)] := rfl
theorem in_num {E r r1 r2 : Int} {d d1 d2 : D} (h : Is E r d) (h1 : Is E r1 d1) (h2 : Is E r2 d2) (hd : d = d1 ∨ d = d2) : cmpD .In d (.list [d1, d2]) = some true := by
  have f : ∀ {r d}, Is E r d → ∃ a b c e, d = num a b c e := fun h => by
    rcases h with ⟨_, rfl⟩ | ⟨a, b, c, _, _, _, _, rfl, _⟩
    · exact ⟨_, _, _, _, rfl⟩
    · exact ⟨_, _, _, _, rfl⟩
  obtain ⟨a, b, c, e, rfl⟩ := f h
  obtain ⟨a1, b1, c1, e1, rfl⟩ := f h1
  obtain ⟨a2, b2, c2, e2, rfl⟩ := f h2
  have g : ∀ {x y z w x' y' z' w' : Int}, num x y z w = num x' y' z' w' → decide (x' = x ∧ y' = y ∧ z' = z ∧ w' = w) = true := fun h => by
    simp only [num, PyData.tuple.injEq, List.cons.injEq, PyData.int.injEq] at h
    simp [h]
  show some (decide (a1 = a ∧ b1 = b ∧ c1 = c ∧ e1 = e) || decide (a2 = a ∧ b2 = b ∧ c2 = c ∧ e2 = e)) = some true
  rcases hd with hd | hd
  · rw [g hd]; rfl
  · rw [g hd]; simp

section
variable {W : Wd} {P : Params}
theorem steps_wp (H : Here W P) {kind E n : Int} {s t : D} {C : Cut} {p x : Nat} (hv : Val kind E s t n C) (hp : 30 ≤ p) (hp2 : p + x ≤ 900) :
    wpSs (Ok W 6) [some (.int kind), some s, some t, some (.int n), some (.int p), some (.int x), none, none, none] b_law_steps_right (fun _ => False) (· = .bool true) := by
  have hE := hv.2.1
  -- rounded once more to p digits
  have pos : ∀ {r : Int} {d : D} (m : Mode), Is E r d → r.natAbs < 2 ^ 100000 → ∃ d', Ok W 6 ("mpf_pos" : Str) [d, .int p, .str (mch m)] d' ∧ ∃ r', Is E r' d' ∧ Rnd p (ex r) r' m := fun m h1 h2 => by
    obtain ⟨d', k1, k2⟩ := mpf_pos_ok H m h1 (by omega) h2 (show 1 ≤ p by omega)
    exact ⟨d', k1.more (by omega), k2⟩
  unfold b_law_steps_right
  -- one turn of the loop
  have turn : ∀ (m : Mode) (o8 : Option D) (N : Rho → Prop), m ≠ .n → (∀ o8', N [some (.int kind), some s, some t, some (.int n), some (.int p), some (.int x), some (.str (mch m)), none, o8']) →
      wpSs (Ok W 6) [some (.int kind), some s, some t, some (.int n), some (.int p), some (.int x), some (.str (mch m)), none, o8]
        [.asg 8 (.call ("_law_done" : Str) [(.loc 0), (.loc 1), (.loc 2), (.loc 3), (.loc 4), (.loc 6)]), .ite (.cmp .NotEq (.call ("mpf_pos" : Str) [(.call ("_law_done" : Str) [(.loc 0), (.loc 1), (.loc 2), (.loc 3), (.bin .Add (.loc 4) (.loc 5)), (.loc 6)]), (.loc 4), (.loc 6)]) (.loc 8)) [.ret (.bool false)] [], .ite (.not (.all (.comp (.text ⟨#[110, 102, 99, 100, 117]⟩) ("other" : Str) (.cmp .Eq (.call ("mpf_pos" : Str) [(.loc 9), (.loc 5), (.loc 0)]) (.loc 9))))) [.ret (.bool false)] []] N (· = .bool true) := by
    intro m o8 N hm hN
    obtain ⟨d1, f1, r1, g1, g2, g3, _⟩ := done_b H m hv hp (by omega)
    obtain ⟨d2, f2, r2, g4, g5, g6, _⟩ := done_b H m hv (p := p + x) (by omega) (by omega)
    obtain ⟨d3, f3, r3, g7, g8⟩ := pos m g4 g6
    have e3 : d3 = d1 := by
      have : r3 = r1 := (Rnd.two (by omega) hm g5 g8).uniq g2
      rw [this] at g7
      exact g7.uniq g1
    rw [e3] at f3
    refine st_asg (x := d1) (e_call (ds := [.int kind, s, t, .int n, .int p, .str (mch m)]) (by ktr_unf) f1 rfl) (by ktr_rel) ?_
    refine st_ite (C := False) (t_iff (t_cmp (a := d1) (b := d1) (e_call (ds := [d2, .int p, .str (mch m)]) (es_cons (e_call (ds := [.int kind, s, t, .int n, .int ((p + x : Nat) : Int), .str (mch m)]) (by ktr_unf; rfl) f2 rfl) (es_cons (x := .int p) (by ktr_unf) (es_cons (x := .str (mch m)) (by ktr_unf) (es_nil rfl)))) f3 rfl) (by ktr_unf) (neq_num g1) Iff.rfl) (by simp)) (fun z => z.elim) (fun _ => st_nil ?_)
    -- what fits is left as it is
    have one : ∀ (m' : Mode) (ρ : Rho), ρ = [some (.str (mch m')), some (.int kind), some s, some t, some (.int n), some (.int p), some (.int x), some (.str (mch m)), none, some d1] → ∀ (k : D → Prop), k (.bool true) → wpE (Ok W 6) ρ (.cmp .Eq (.call ("mpf_pos" : Str) [(.loc 9), (.loc 5), (.loc 0)]) (.loc 9)) k := by
      intro m' ρ hρ k hk
      subst hρ
      obtain ⟨d4, f4, r4, g9, g10⟩ := pos m' g1 g3
      have e4 : d4 = d1 := by
        have : r4 = r1 := g10.uniq (Rnd.ex g2.fits m')
        rw [this] at g9
        exact g9.uniq g1
      rw [e4] at f4
      exact e_cmp (e_call (ds := [d1, .int p, .str (mch m')]) (by ktr_unf) f4 rfl) (by ktr_unf) (eq_num g1) hk
    refine st_ite (C := False) (t_iff (t_not (t_bool (b := true) ?_)) (by simp)) (fun z => z.elim) (fun _ => st_nil (st_nil (hN _)))
    unfold wpE
    unfold wpE
    rw [src_nfcdu]
    unfold wpEach
    refine one .n _ rfl _ ?_
    refine ⟨rfl, ?_⟩
    unfold wpEach
    refine one .f _ rfl _ ?_
    refine ⟨rfl, ?_⟩
    unfold wpEach
    refine one .c _ rfl _ ?_
    refine ⟨rfl, ?_⟩
    unfold wpEach
    refine one .d _ rfl _ ?_
    refine ⟨rfl, ?_⟩
    unfold wpEach
    refine one .u _ rfl _ ?_
    refine ⟨rfl, ?_⟩
    unfold wpEach
    rfl
  refine st_for ?_
  rw [src_fcdu]
  have set6 : ∀ (o6 o8 : Option D) (v : D), ([some (.int kind), some s, some t, some (.int n), some (.int p), some (.int x), o6, none, o8] : Rho).set 6 (some v) = [some (.int kind), some s, some t, some (.int n), some (.int p), some (.int x), some v, none, o8] := fun _ _ _ => rfl
  unfold wpFor; rw [set6]
  refine turn .f _ _ (fun h => nomatch h) fun o1 => ?_
  unfold wpFor; rw [set6]
  refine turn .c _ _ (fun h => nomatch h) fun o2 => ?_
  unfold wpFor; rw [set6]
  refine turn .d _ _ (fun h => nomatch h) fun o3 => ?_
  unfold wpFor; rw [set6]
  refine turn .u _ _ (fun h => nomatch h) fun o4 => ?_
  unfold wpFor
  -- to the nearest, twice
  obtain ⟨d2, f2, r2, g4, g5, g6, _⟩ := done_b H .n hv (p := p + x) (by omega) (by omega)
  obtain ⟨d3, f3, r3, g7, g8⟩ := pos .n g4 g6
  obtain ⟨da, fa, ra, ga, ga2, _⟩ := done_b H .f hv hp (by omega)
  obtain ⟨db, fb, rb, gb, gb2, _⟩ := done_b H .c hv hp (by omega)
  have hn := near_two (show p ≤ p + x by omega) g5 g8 ga2 gb2
  have hd : d3 = da ∨ d3 = db := by
    rcases hn with h | h
    · left; rw [h] at g7; exact g7.uniq ga
    · right; rw [h] at g7; exact g7.uniq gb
  refine st_asg (x := d3) (e_call (ds := [d2, .int p, .str (mch .n)]) (es_cons (e_call (ds := [.int kind, s, t, .int n, .int ((p + x : Nat) : Int), .str (mch .n)]) (by ktr_unf; rfl) f2 rfl) (es_cons (x := .int p) (by ktr_unf) (es_cons (x := .str (mch .n)) (by ktr_unf; rfl) (es_nil rfl)))) f3 rfl) (by ktr_rel) (st_ret ?_)
  refine e_cmp (a := d3) (b := .list [da, db]) (by ktr_unf) ?_ (in_num g7 ga gb hd) rfl
  unfold wpE
  exact es_cons (e_call (ds := [.int kind, s, t, .int n, .int p, .str (mch .f)]) (by ktr_unf; rfl) fa rfl) (es_cons (e_call (ds := [.int kind, s, t, .int n, .int p, .str (mch .c)]) (by ktr_unf; rfl) fb rfl) (es_nil rfl))
end
end Mine

end

section
open PySem PySem.Calls
set_option maxRecDepth 100000
set_option linter.unusedVariables false
set_option linter.unusedSimpArgs false
namespace Mine
local macro_rules
  | `(tactic| ktr_unf) => `(tactic| simp only [wpT, wpE, wpEs, wpTr, truthD, wpBin, optP, cmpD, itemD, eq4, setAll, List.map_cons, List.map_nil, List.reverse_cons, List.reverse_nil, List.nil_append, List.cons_append, List.getElem?_cons_zero, List.getElem?_cons_succ, List.set_cons_zero, List.set_cons_succ, Option.some.injEq, PyData.int.injEq, PyData.bool.injEq, PyData.tuple.injEq, PyData.str.injEq, decide_eq_true_eq, Bool.not_eq_true', decide_eq_false_iff_not, num])
local macro_rules
  | `(tactic| ktr_rel) => `(tactic| (simp only [setAll, List.reverse_cons, List.reverse_nil, List.nil_append, List.cons_append, List.set_cons_zero, List.set_cons_succ]; rfl))

/-- a number of the law's making -/
structure Rw (d : D) (sg man e : Int) : Prop where
  hd : d = num sg man e (Builtin.Int.intBits man)
  hsg : sg = 0 ∨ sg = 1
  hman : 0 ≤ man
  hb : Builtin.Int.intBits man ≤ 31
  he : -400 ≤ e ∧ e ≤ 400
  hz : man = 0 → sg = 0 ∧ e = 0
  hodd : man ≠ 0 → man % 2 = 1
theorem Rw.pt {d : D} {sg man e : Int} (h : Rw d sg man e) : Pt 1500 (sv sg man * 2 ^ (e + 1500).toNat) d sg man e := ⟨h.hd, h.hsg, h.hman, by have := h.he; omega, rfl, h.hz, h.hodd⟩
theorem Rw.nu {d : D} {sg man e : Int} (h : Rw d sg man e) : Nu 1500 (sv sg man * 2 ^ (e + 1500).toNat) d := ⟨sg, man, e, h.pt, h.hb, by have := h.he; omega, by have := h.he; omega, by omega⟩
theorem fmod_pos {a b : Int} (h : 0 < b) : 0 ≤ a.fmod b ∧ a.fmod b < b := ⟨Int.fmod_nonneg_of_pos _ h, Int.fmod_lt_of_pos _ h⟩

section
variable {W : Wd} {P : Params}
theorem mixed_ok (H : Here W P) {ns : List Int} (hl : ns.length < 100) {k : Int} (k0 : 0 ≤ k) (k1 : k < 100) : ∃ d, Ok W 1 ("_law_mixed" : Str) [.list (ns.map .int), .int k] d ∧ ∃ v : Int, d = .int v := by
  refine fn_ex H 2 (k_law_mixed P) (by kernel_rfl) (bnd_law_mixed_2 H.K _ _) rfl (by decide) ?_
  show wpSs _ [some (.list (ns.map .int)), some (.int k), none] b_law_mixed _ _
  unfold b_law_mixed
  have rest : ∀ v : Int, wpSs (Ok W 0) [some (.list (ns.map .int)), some (.int k), some (.int v)] (b_law_mixed.drop 1) (fun _ => False) (fun d => ∃ v : Int, d = .int v) := by
    intro v
    show wpSs _ _ [MS.ite _ _ _, MS.ret _] _ _
    refine st_ite (C := 2 ^ (64 : Int).toNat ≤ v) (t_iff (t_cmp (a := .int v) (b := .int (2 ^ (64 : Int).toNat)) (by ktr_unf) (by ktr_unf; exact ⟨⟨by decide, by decide⟩, trivial⟩) rfl Iff.rfl) (by rw [decide_eq_true_eq])) (fun z => st_ret (by ktr_unf; exact ⟨_, rfl⟩)) (fun z => st_nil (st_ret ?_))
    ktr_unf
    refine ⟨IntMulOk.of_right (by decide), IntMulOk.of_right (by decide), ⟨by decide, by decide⟩, ?_, _, rfl⟩
    exact Int.ne_of_gt (pow_pos2 _)
  have hlen : wpE (Ok W 0) [some (.list (ns.map .int)), some (.int k), none] (.len (.loc 0)) (· = .int ns.length) := by
    ktr_unf
    exact ⟨by simpa using hl, by simp⟩
  by_cases z : k < ns.length
  · obtain ⟨v, hv⟩ : ∃ v, ns[k.toNat]? = some v := ⟨_, List.getElem?_eq_getElem (show k.toNat < ns.length by omega)⟩
    refine st_asg (x := .int v) (e_ife (t_cmp (A := k < ns.length) (a := .int k) (b := .int ns.length) (by ktr_unf) hlen rfl (by rw [decide_eq_true_eq])) (fun _ => ?_) (fun q => absurd z q)) (by ktr_rel) (rest v)
    ktr_unf
    rw [if_pos ⟨k0, k1⟩, List.getElem?_map, hv]
    rfl
  · refine st_asg (x := .int 0) (e_ife (t_cmp (A := k < ns.length) (a := .int k) (b := .int ns.length) (by ktr_unf) hlen rfl (by rw [decide_eq_true_eq])) (fun q => absurd q z) (fun _ => by ktr_unf)) (by ktr_rel) (rest 0)

theorem raw_ok (H : Here W P) (rich : Int) : ∃ d, Ok W 1 ("_law_raw" : Str) [.int rich, .int 30, .int 90] d ∧ ∃ sg man e, Rw d sg man e ∧ Builtin.Int.intBits man ≤ 30 ∧ -90 ≤ e ∧ e ≤ 90 := by
  refine fn_ex H 3 (k_law_raw P) (by kernel_rfl) (bnd_law_raw_3 H.K _ _ _) rfl (by decide) ?_
  show wpSs _ [some (.int rich), some (.int 30), some (.int 90), none, none, none, none] b_law_raw _ _
  unfold b_law_raw
  obtain ⟨kd, hkd⟩ : ∃ kd : Int, kd = (rich.fdiv 2).fmod 8 := ⟨_, rfl⟩
  obtain ⟨e, he⟩ : ∃ e : Int, e = (rich.fdiv 16).fmod 181 - 90 := ⟨_, rfl⟩
  obtain ⟨m, hm⟩ : ∃ m : Int, m = rich.fdiv (2 ^ (16 : Int).toNat) := ⟨_, rfl⟩
  have he2 := fmod_pos (a := rich.fdiv 16) (b := 181) (by decide)
  refine st_asgW (ds := [.int kd, .int e, .int m]) ?_ (by ktr_rel) ?_
  · ktr_unf
    refine ⟨⟨by decide, by decide⟩, by decide, ⟨by decide, by decide⟩, IntMulOk.of_left (by decide), by decide, ⟨by decide, by decide⟩, ⟨by decide, by decide⟩, ?_⟩
    rw [hkd, he, hm]; rfl
  have hsg := fmod_pos (a := rich) (b := 2) (by decide)
  refine st_ite (C := kd = 0) (by ktr_unf) (fun z => st_ret ?_) (fun z => st_nil ?_)
  · ktr_unf
    exact ⟨0, 0, 0, ⟨rfl, .inl rfl, by omega, by decide, by omega, fun _ => ⟨rfl, rfl⟩, fun h => absurd rfl h⟩, by decide, by omega, by omega⟩
  have hj := fmod_pos (a := m) (b := 30) (by decide)
  have hj2 := fmod_pos (a := m) (b := 29) (by decide)
  have hpj := pow_pos2 (1 + m.fmod 30).toNat
  have hx := fmod_pos (a := m) (b := 2 ^ (1 + m.fmod 30).toNat) hpj
  obtain ⟨j, hjj⟩ : ∃ j : Nat, (1 + m.fmod 30).toNat = j + 1 := ⟨(m.fmod 30).toNat, by omega⟩
  have hj30 : (2 : Int) ^ j ≤ 2 ^ 29 := pow_le2 (by omega)
  have hp2 : (2 : Int) ^ (j + 1) = 2 * 2 ^ j := by rw [Int.pow_succ, Int.mul_comm]
  have hp0 := pow_pos2 j
  obtain ⟨i, hii⟩ : ∃ i : Nat, (1 + m.fmod 29).toNat = i + 1 := ⟨(m.fmod 29).toNat, by omega⟩
  have hi29 : (2 : Int) ^ i ≤ 2 ^ 28 := pow_le2 (by omega)
  have hpi : (2 : Int) ^ (i + 1) = 2 * 2 ^ i := by rw [Int.pow_succ, Int.mul_comm]
  have hi0 := pow_pos2 i
  have last : ∀ (man : Int), 0 < man → man % 2 = 1 → man < 2 ^ 30 → wpSs (Ok W 0) [some (.int rich), some (.int 30), some (.int 90), some (.int man), some (.int kd), some (.int e), some (.int m)] (b_law_raw.drop 4) (fun _ => False) (fun d => ∃ sg man e, Rw d sg man e ∧ Builtin.Int.intBits man ≤ 30 ∧ -90 ≤ e ∧ e ≤ 90) := by
    intro man h0 ho hlt
    show wpSs _ _ [MS.ret _] _ _
    refine st_ret ?_
    ktr_unf
    have hb : Builtin.Int.intBits man ≤ 30 := PySem.intBits_le_iff.mpr (by omega)
    exact ⟨by decide, rich.fmod 2, man, e, ⟨rfl, by omega, by omega, by omega, by omega, fun q => by omega, fun _ => ho⟩, hb, by omega, by omega⟩
  obtain ⟨mn, hmn⟩ : ∃ mn : Int, mn = (m.fmod (2 ^ (1 + m.fmod 30).toNat)).fdiv 2 * 2 + 1 := ⟨_, rfl⟩
  have hmn2 : mn % 2 = 1 ∧ 0 < mn ∧ mn < 2 ^ 30 := by
    rw [hjj, hp2] at hx
    rw [hmn, hjj, hp2, Int.fdiv_eq_ediv_of_nonneg _ (by omega)]
    omega
  refine st_asg (x := .int mn) ?_ (by ktr_rel) ?_
  · ktr_unf
    have hb2 : Builtin.Int.intBits 2 = 2 := rfl
    rw [hb2]
    exact ⟨by decide, ⟨by omega, by omega⟩, by omega, ⟨by decide, by decide⟩, IntMulOk.of_right (by decide), by rw [hmn]⟩
  refine st_ite (C := kd = 1) (by ktr_unf) (fun z1 => ?_) (fun z1 => ?_)
  · exact st_asg (x := .int 1) (by ktr_unf) (by ktr_rel) (st_nil (last 1 (by decide) (by decide) (by decide)))
  refine st_ite (C := kd = 2) (by ktr_unf) (fun z2 => ?_) (fun z2 => ?_)
  · refine st_asg (x := .int (2 ^ (j + 1) - 1)) ?_ (by ktr_rel) (st_nil (st_nil (last _ (by omega) (by omega) (by omega))))
    ktr_unf
    have hb2 : Builtin.Int.intBits 2 = 2 := rfl
    rw [hb2, hjj]
    exact ⟨by decide, ⟨by omega, by omega⟩, rfl⟩
  refine st_ite (C := kd = 3) (t_iff (t_and (A := kd = 3) (B := (1 : Int) < 30) (by ktr_unf) fun _ => (by ktr_unf)) (by simp)) (fun z2 => ?_) (fun z2 => st_nil (st_nil (st_nil (last mn hmn2.2.1 hmn2.1 hmn2.2.2))))
  refine st_asg (x := .int (2 ^ (i + 1) + 1)) ?_ (by ktr_rel) (st_nil (st_nil (st_nil (last _ (by omega) (by omega) (by omega)))))
  ktr_unf
  have hb2 : Builtin.Int.intBits 2 = 2 := rfl
  have e29 : (30 : Int) - 1 = 29 := rfl
  rw [hb2, e29, hii]
  exact ⟨by decide, ⟨by omega, by omega⟩, rfl⟩

/-- rounded to p digits, known at every scale -/
theorem mpf_pos_u (H : Here W P) {E X : Int} {s : D} {sg man exp : Int} {p : Nat} (m : Mode) (k : Pt E X s sg man exp) (hsz : Builtin.Int.intBits man ≤ 1000) (hp : 1 ≤ p) :
    ∃ d, Ok W 4 ("mpf_pos" : Str) [s, .int p, .str (mch m)] d ∧ ∀ E', 1 ≤ exp + E' → ∃ r, Is E' r d ∧ Rnd p (ex (sv sg man * 2 ^ (exp + E').toNat)) r m := by
  refine fn_ex H 3 (k_mpf_pos P) (by kernel_rfl) (bnd_mpf_pos_3 H.K _ _ _) rfl (by decide) ?_
  show wpSs _ [some s, some (.int p), some (.str (mch m)), none, none, none, none] b_mpf_pos _ _
  rw [k.hd]
  unfold b_mpf_pos
  refine st_ite (C := True) (t_iff (t_int (x := p) (by ktr_unf)) (by simp; omega)) (fun _ => ?_) (fun z => absurd trivial z)
  refine st_asgT (ds := [.int sg, .int man, .int exp, .int (Builtin.Int.intBits man)]) (by ktr_unf) (by ktr_rel) ?_
  refine st_ite (C := False) (t_iff (t_and (t_not (t_int (x := man) (by ktr_unf))) fun _ => t_int (x := exp) (by ktr_unf)) ?_) (fun z => z.elim) (fun _ => st_nil (st_ret ?_))
  · have := k.hz; simp; omega
  · obtain ⟨d, h1, h2⟩ := normalize_ok H exp m k.hsg k.hman hp (by omega)
    exact e_callx (ds := [.int sg, .int man, .int exp, .int (Builtin.Int.intBits man), .int p, .str (mch m)]) (by ktr_unf) ⟨d, h1, h2⟩
theorem low_exp {A B : Int} {j k : Nat} (hB : B % 2 = 1) (h : A * 2 ^ j = B * 2 ^ k) : j ≤ k := by
  have hA : A ≠ 0 := fun q => by
    rw [q, Int.zero_mul] at h
    exact absurd h.symm (Int.mul_ne_zero (by omega) (Int.ne_of_gt (pow_pos2 _)))
  obtain ⟨q, i, e, hq⟩ := odd_ex hA
  rw [e, Int.mul_assoc, ← pow_add2] at h
  have := (odd_uniq hq hB h).1
  omega
end
end Mine

end

section
open PySem PySem.Calls
set_option maxRecDepth 100000
set_option linter.unusedVariables false
set_option linter.unusedSimpArgs false
namespace Mine
local macro_rules
  | `(tactic| ktr_unf) => `(tactic| simp only [wpT, wpE, wpEs, wpTr, truthD, wpBin, optP, cmpD, itemD, eq4, setAll, List.map_cons, List.map_nil, List.reverse_cons, List.reverse_nil, List.nil_append, List.cons_append, List.getElem?_cons_zero, List.getElem?_cons_succ, List.set_cons_zero, List.set_cons_succ, Option.some.injEq, PyData.int.injEq, PyData.bool.injEq, PyData.tuple.injEq, PyData.str.injEq, decide_eq_true_eq, Bool.not_eq_true', decide_eq_false_iff_not, num])
local macro_rules
  | `(tactic| ktr_rel) => `(tactic| (simp only [setAll, List.reverse_cons, List.reverse_nil, List.nil_append, List.cons_append, List.set_cons_zero, List.set_cons_succ]; rfl))

theorem e_item {ok : Str → List D → D → Prop} {ρ : Rho} {e : ME} {k : Int} {d v : D} {P : D → Prop} (h : wpE ok ρ e (· = d)) (h2 : itemD d (.int k) = some v) (h3 : P v) : wpE ok ρ (.item e (.int k)) P := by
  unfold wpE
  refine wpE_mono e (fun x hx => ?_) h
  subst hx
  unfold wpE
  show optP (itemD x (.int k)) P
  rw [h2]
  exact h3
theorem t_gt {ok : Str → List D → D → Prop} {ρ : Rho} {l r : ME} {x y : Int} (h1 : wpE ok ρ l (· = .int x)) (h2 : wpE ok ρ r (· = .int y)) : wpT ok ρ (.cmp .Gt l r) (fun t => t = true ↔ y < x) := t_cmp h1 h2 rfl (by rw [decide_eq_true_eq])
theorem t_eq {ok : Str → List D → D → Prop} {ρ : Rho} {l r : ME} {x y : Int} (h1 : wpE ok ρ l (· = .int x)) (h2 : wpE ok ρ r (· = .int y)) : wpT ok ρ (.cmp .Eq l r) (fun t => t = true ↔ x = y) := t_cmp h1 h2 rfl (by rw [decide_eq_true_eq])

/-- the other operand, before it is cut to thirty digits -/
structure Ot (d : D) (sg man e V : Int) : Prop where
  k : Pt 1500 V d sg man e
  hb : Builtin.Int.intBits man ≤ 1000
  he : -200 ≤ e ∧ e ≤ 300
  hV : V.natAbs < 2 ^ 1900
theorem Rw.abs {d : D} {sg man e : Int} {a : Nat} (h : Rw d sg man e) (hb : Builtin.Int.intBits man ≤ 30) (he : e ≤ 90) (ha : 1620 ≤ a) : (sv sg man * 2 ^ (e + 1500).toNat).natAbs ≤ 2 ^ a := by
  rw [h.pt.natAbs]
  have h1 := PySem.intBits_le_iff.mp hb
  have h2 : 2 ^ 30 * 2 ^ (e + 1500).toNat ≤ 2 ^ a := by
    rw [← Nat.pow_add]
    exact Nat.pow_le_pow_right (by omega) (by omega)
  exact Nat.le_trans (Nat.mul_le_mul_right _ (Nat.le_of_lt h1)) h2
theorem Rw.ot {d : D} {sg man e : Int} (h : Rw d sg man e) (hb : Builtin.Int.intBits man ≤ 30) (h1 : -90 ≤ e) (h2 : e ≤ 90) : ∃ V, Ot d sg man e V :=
  ⟨_, h.pt, by omega, by omega, Nat.lt_of_le_of_lt (h.abs (a := 1620) hb h2 (by omega)) (Nat.pow_lt_pow_right (by omega) (by omega))⟩

section
variable {W : Wd} {P : Params}
theorem sum_ot (H : Here W P) {s : D} {sg sm se tg : Int} (h : Rw s sg sm se) (hb : Builtin.Int.intBits sm ≤ 30) (h1 : -90 ≤ se) (h2 : se ≤ 90) (htg : tg = 0 ∨ tg = 1) (hs : sm ≠ 0) :
    ∃ d, Ok W 4 ("mpf_add" : Str) [s, num tg 1 (se - 3) 1] d ∧ ∃ a b c V, Ot d a b c V := by
  obtain ⟨d, q1, q2⟩ := mpf_add_ok2 H h.pt htg hs (by omega) (by omega) (by omega)
  refine ⟨d, q1, ?_⟩
  obtain ⟨a, b, c, k⟩ := q2.pt (by omega)
  have e3 : (se + 1500).toNat = 3 + (se - 3 + 1500).toNat := by omega
  have hV : sv sg sm * 2 ^ (se + 1500).toNat + sv tg 1 * 2 ^ (se - 3 + 1500).toNat = (sv sg sm * 2 ^ 3 + sv tg 1) * 2 ^ (se - 3 + 1500).toNat := by
    rw [e3, pow_add2, ← Int.mul_assoc, ← Int.add_mul]
  have hA : (sv sg sm * 2 ^ (se + 1500).toNat + sv tg 1 * 2 ^ (se - 3 + 1500).toNat).natAbs < 2 ^ 1700 := by
    have x1 := h.abs (a := 1620) hb h2 (by omega)
    have x2 : (sv tg 1 * 2 ^ (se - 3 + 1500).toNat).natAbs ≤ 2 ^ 1620 := by
      rw [Int.natAbs_mul, natAbs_sv, Int.natAbs_pow]
      show 1 * 2 ^ _ ≤ _
      rw [Nat.one_mul]
      exact Nat.pow_le_pow_right (by omega) (by omega)
    have x3 : 2 ^ (1620 + 1) < 2 ^ 1700 := Nat.pow_lt_pow_right (by omega) (by omega)
    rw [Nat.pow_succ] at x3
    generalize sv sg sm * 2 ^ (se + 1500).toNat = p1 at *
    generalize sv tg 1 * 2 ^ (se - 3 + 1500).toNat = p2 at *
    generalize 2 ^ 1620 = q1 at *
    generalize 2 ^ 1700 = q2 at *
    omega
  have hlt : (2 : Nat) ^ 1700 < 2 ^ 1900 := Nat.pow_lt_pow_right (by omega) (by omega)
  refine ⟨a, b, c, _, k, ?_, ?_, Nat.lt_trans hA hlt⟩
  · by_cases z : b = 0
    · rw [z]; decide
    · have l1 := low_exp (A := sv sg sm * 2 ^ 3 + sv tg 1) (sv_odd (k.hodd z)) (hV.symm.trans k.hX)
      have l2 := (k.bits (K := 1700) hA).2 z
      omega
  · by_cases z : b = 0
    · have := (k.hz z).2
      omega
    · have l1 := low_exp (A := sv sg sm * 2 ^ 3 + sv tg 1) (sv_odd (k.hodd z)) (hV.symm.trans k.hX)
      have l2 := (k.bits (K := 1700) hA).2 z
      have := k.hexp
      omega

theorem cut_nu (H : Here W P) {d : D} {a b c V : Int} (h : Ot d a b c V) : ∃ d', Ok W 4 ("mpf_pos" : Str) [d, .int 30, .str (mch .d)] d' ∧ ∃ X', Nu 1500 X' d' := by
  obtain ⟨d', q1, q2⟩ := mpf_pos_u H (p := 30) .d h.k h.hb (by omega)
  refine ⟨d', q1, ?_⟩
  have hc := h.he
  obtain ⟨r, q3, q4⟩ := q2 1500 (by omega)
  rw [← h.k.hX] at q4
  obtain ⟨sg, man, e, k⟩ := q3.pt (by omega)
  have hbits := q4.fits.man k
  have hr := q4.bd (K := 1900) (by omega) (bd_ex (Nat.le_of_lt h.hV))
  refine ⟨r, sg, man, e, k, by omega, ?_, ?_, by omega⟩
  · by_cases z : man = 0
    · have := (k.hz z).2; omega
    · obtain ⟨r', q5, _⟩ := q2 (1 - c) (by omega)
      rcases q5 with ⟨_, q5⟩ | ⟨s1, s2, s3, _, _, _, q6, q5, _⟩
      · rw [k.hd] at q5
        simp only [num, PyData.tuple.injEq, List.cons.injEq, PyData.int.injEq] at q5
        exact absurd q5.2.1 z
      · rw [k.hd] at q5
        simp only [num, PyData.tuple.injEq, List.cons.injEq, PyData.int.injEq] at q5
        have := q5.2.2.1
        omega
  · by_cases z : man = 0
    · have := (k.hz z).2; omega
    · have := (k.bits (K := 1901) (Nat.lt_of_le_of_lt hr (Nat.pow_lt_pow_right (by omega) (by omega)))).2 z
      omega
theorem Ot.nu {d : D} {a b c V : Int} (h : Ot d a b c V) (hb : Builtin.Int.intBits b ≤ 30) : Nu 1500 V d := ⟨a, b, c, h.k, by omega, by have := h.he; omega, by have := h.he; omega, by omega⟩
end
end Mine

end

section
open PySem PySem.Calls
set_option maxRecDepth 100000
set_option linter.unusedVariables false
set_option linter.unusedSimpArgs false
namespace Mine
local macro_rules
  | `(tactic| ktr_unf) => `(tactic| simp only [wpT, wpE, wpEs, wpTr, truthD, wpBin, optP, cmpD, itemD, eq4, setAll, List.map_cons, List.map_nil, List.reverse_cons, List.reverse_nil, List.nil_append, List.cons_append, List.getElem?_cons_zero, List.getElem?_cons_succ, List.set_cons_zero, List.set_cons_succ, Option.some.injEq, PyData.int.injEq, PyData.bool.injEq, PyData.tuple.injEq, PyData.str.injEq, decide_eq_true_eq, Bool.not_eq_true', decide_eq_false_iff_not, num])
local macro_rules
  | `(tactic| ktr_rel) => `(tactic| (simp only [setAll, List.reverse_cons, List.reverse_nil, List.nil_append, List.cons_append, List.set_cons_zero, List.set_cons_succ]; rfl))

theorem src_range3 : srcD (.range 3) = [.int 0, .int 1, .int 2] := rfl
section
variable {W : Wd} {P : Params}
theorem law_wp (H : Here W P) (steps : ∀ {kind E n : Int} {s t : D} {C : Cut} {p x : Nat}, Val kind E s t n C → 30 ≤ p → p + x ≤ 900 → Ok W 7 ("_law_steps_right" : Str) [.int kind, s, t, .int n, .int p, .int x] (.bool true)) {ns : List Int} (hl : ns.length < 100) :
    wpSs (Ok W 8) [some (.list (ns.map .int)), none, none, none, none, none, none, none, none, none, none, none] b_law (fun _ => False) (· = .bool true) := by
  obtain ⟨sc, hsc⟩ : ∃ sc : D, sc = .list (ns.map .int) := ⟨_, rfl⟩
  have mixed : ∀ (k : Int), 0 ≤ k → k < 100 → ∃ v : Int, Ok W 8 ("_law_mixed" : Str) [sc, .int k] (.int v) := fun k h1 h2 => by
    rw [hsc]
    obtain ⟨d, q1, v, rfl⟩ := mixed_ok H hl h1 h2
    exact ⟨v, q1.more (by omega)⟩
  rw [← hsc]
  clear hsc
  unfold b_law
  obtain ⟨first, hf⟩ := mixed 0 (by omega) (by omega)
  obtain ⟨more, hmo⟩ := mixed 4 (by omega) (by omega)
  refine st_asgW (ds := [.int first, .int more]) (es_cons (e_call (ds := [sc, .int 0]) (by ktr_unf) hf rfl) (es_cons (e_call (ds := [sc, .int 4]) (by ktr_unf) hmo rfl) (es_nil rfl))) (by ktr_rel) ?_
  have hk := fmod_pos (a := first) (b := 7) (by decide)
  have hpp := fmod_pos (a := first.fdiv 7) (b := 40) (by decide)
  have hby := fmod_pos (a := first.fdiv 280) (b := 101) (by decide)
  obtain ⟨kind, hkind⟩ : ∃ kind : Int, kind = first.fmod 7 := ⟨_, rfl⟩
  obtain ⟨p, hp⟩ : ∃ p : Nat, 30 + (first.fdiv 7).fmod 40 = p := ⟨(30 + (first.fdiv 7).fmod 40).toNat, by omega⟩
  obtain ⟨b, hb⟩ : ∃ b : Int, b = (first.fdiv 280).fmod 101 - 50 := ⟨_, rfl⟩
  refine st_asgW (ds := [.int kind, .int p, .int b]) ?_ (by ktr_rel) ?_
  · ktr_unf
    refine ⟨by decide, ⟨by decide, by decide⟩, by decide, ⟨by decide, by decide⟩, by decide, ?_⟩
    rw [hkind, hp, hb]
  rw [← hkind] at hk
  -- the raw numbers
  obtain ⟨v1, hv1⟩ := mixed 1 (by omega) (by omega)
  obtain ⟨v2, hv2⟩ := mixed 2 (by omega) (by omega)
  obtain ⟨v3, hv3⟩ := mixed 3 (by omega) (by omega)
  obtain ⟨s, g1, sg, sm, se, ks, bs, ls, us⟩ := raw_ok H v1
  obtain ⟨o, g2, og, om, oe, ko, bo, lo, uo⟩ := raw_ok H v2
  obtain ⟨t, g3, tg, tm, te, kt, bt, lt, ut⟩ := raw_ok H v3
  have dn : ∀ {d : D} {a c e : Int}, Rw d a c e → noLst d = true := fun h => by rw [h.hd]; rfl
  have elt : ∀ (k k1 v : Int) (d : D) (Q : D → Prop), 1 + k = k1 → Ok W 8 ("_law_mixed" : Str) [sc, .int k1] (.int v) → Ok W 1 ("_law_raw" : Str) [.int v, .int 30, .int 90] d → Q d →
      wpE (Ok W 8) (some (.int k) :: [some sc, none, some (.int first), some (.int more), some (.int kind), some (.int p), some (.int b), none, none, none, none, none]) (.call ("_law_raw" : Str) [(.call ("_law_mixed" : Str) [(.loc 1), (.bin .Add (.int (1)) (.loc 0))]), (.int (30)), (.int (90))]) Q := by
    intro k k1 v d Q e h1 h2 hQ
    exact e_call (ds := [.int v, .int 30, .int 90]) (es_cons (e_call (ds := [sc, .int k1]) (by ktr_unf; rw [e]) h1 rfl) (es_cons (x := .int 30) (by ktr_unf) (es_cons (x := .int 90) (by ktr_unf) (es_nil rfl)))) (h2.more (by omega)) hQ
  refine st_asgTl (ds := [s, o, t]) ?_ (by ktr_rel) ?_
  · unfold wpE
    rw [src_range3]
    unfold wpEach
    refine elt 0 1 v1 s _ rfl hv1 g1 ?_
    refine ⟨dn ks, ?_⟩
    unfold wpEach
    refine elt 1 2 v2 o _ rfl hv2 g2 ?_
    refine ⟨dn ko, ?_⟩
    unfold wpEach
    refine elt 2 3 v3 t _ rfl hv3 g3 ?_
    refine ⟨dn kt, ?_⟩
    unfold wpEach
    rfl
  have it : ∀ (a c e w : Int), itemD (num a c e w) (.int 0) = some (.int a) ∧ itemD (num a c e w) (.int 1) = some (.int c) ∧ itemD (num a c e w) (.int 2) = some (.int e) ∧ itemD (num a c e w) (.int 3) = some (.int w) := fun a c e w => ⟨rfl, rfl, rfl, rfl⟩
  -- the end
  have fin : ∀ (o t : D) (X' tg tm te : Int), Nu 1500 X' o → Rw t tg tm te → (kind = 3 ∨ kind = 6 → tm ≠ 0) → wpSs (Ok W 8) [some sc, none, some (.int first), some (.int more), some (.int kind), some (.int p), some (.int b), some s, some o, some t, none, none] (b_law.drop 6) (fun _ => False) (· = .bool true) := by
    intro o t X' tg tm te ho kt htm
    show wpSs _ _ (MS.asgW _ _ :: MS.ite _ _ _ :: MS.forS _ _ _ :: [MS.ret _]) _ _
    have hnn := fmod_pos (a := more.fdiv 6) (b := 2 ^ (41 : Int).toNat + 1) (by decide)
    have hxx := fmod_pos (a := more.fdiv (2 ^ (44 : Int).toNat)) (b := 41) (by decide)
    obtain ⟨n, hn⟩ : ∃ n : Int, n = (more.fdiv 6).fmod (2 ^ (41 : Int).toNat + 1) - 2 ^ (40 : Int).toNat := ⟨_, rfl⟩
    obtain ⟨x, hx⟩ : ∃ x : Nat, (more.fdiv (2 ^ (44 : Int).toNat)).fmod 41 = x := ⟨((more.fdiv (2 ^ (44 : Int).toNat)).fmod 41).toNat, by omega⟩
    have hnb : Builtin.Int.intBits n ≤ 1000 := by
      have k1 : ((2 : Int) ^ (41 : Int).toNat + 1) = 2199023255553 := by decide
      have k2 : ((2 : Int) ^ (40 : Int).toNat) = 1099511627776 := by decide
      rw [k1] at hnn hn
      rw [k2] at hn
      have : n.natAbs < 2 ^ 42 := by omega
      have := PySem.intBits_le_iff.mpr this
      omega
    refine st_asgW (ds := [.int n, .int x]) ?_ (by ktr_rel) ?_
    · ktr_unf
      refine ⟨⟨by decide, by decide⟩, ⟨by decide, by decide⟩, by decide, ⟨by decide, by decide⟩, ⟨by decide, by decide⟩, ⟨by decide, by decide⟩, by decide, ?_⟩
      rw [hn, hx]
    have hX := ks.nu
    have hY := kt.nu
    have hzY : kind = 3 ∨ kind = 6 → sv tg tm * 2 ^ (te + 1500).toNat ≠ 0 := fun q => Int.mul_ne_zero (sv_ne (by have := htm q; have := kt.hman; omega)) (Int.ne_of_gt (pow_pos2 _))
    obtain ⟨E, C, hv, _⟩ := val_all (kind := kind) (n := n) (by omega) hnb hX hY hzY
    have hst := steps hv (p := p) (x := x) (by omega) (by omega)
    refine st_ite (C := False) (t_iff (t_not (t_bool (b := true) (e_call (ds := [.int kind, s, t, .int n, .int p, .int x]) (by ktr_unf) (hst.more (by omega)) rfl))) (by simp)) (fun z => z.elim) (fun _ => st_nil ?_)
    have turn : ∀ (m : Mode) (N : Rho → Prop), N [some sc, some (.str (mch m)), some (.int first), some (.int more), some (.int kind), some (.int p), some (.int b), some s, some o, some t, some (.int n), some (.int x)] →
        wpSs (Ok W 8) [some sc, some (.str (mch m)), some (.int first), some (.int more), some (.int kind), some (.int p), some (.int b), some s, some o, some t, some (.int n), some (.int x)]
          [.ite (.not (.call ("_law_moved_right" : Str) [(.loc 4), (.loc 7), (.loc 9), (.loc 10), (.loc 5), (.loc 1), (.loc 6)])) [.ret (.bool false)] [], .ite (.and (.cmp .NotEq (.loc 4) (.int (6))) (.not (.call ("_law_order_right" : Str) [(.loc 4), (.loc 7), (.loc 8), (.loc 9), (.loc 10), (.loc 5), (.loc 1)]))) [.ret (.bool false)] []] N (· = .bool true) := by
      intro m N hN
      have hm := moved_ok H m (kind := kind) (n := n) (b := b) (p := p) (by omega) hnb hX hY hzY (by omega) (by omega) (by omega) (by omega)
      refine st_ite (C := False) (t_iff (t_not (t_bool (b := true) (e_call (ds := [.int kind, s, t, .int n, .int p, .str (mch m), .int b]) (by ktr_unf) (hm.more (by omega)) rfl))) (by simp)) (fun z => z.elim) (fun _ => st_nil ?_)
      refine st_ite (C := False) (t_iff (t_and (A := kind ≠ 6) (B := False) (t_cmp (a := .int kind) (b := .int 6) (by ktr_unf) (by ktr_unf) rfl (by simp)) fun z => ?_) (by simp)) (fun z => z.elim) (fun _ => st_nil (st_nil hN))
      have ho2 := order_ok H m (kind := kind) (n := n) (p := p) (by omega) hnb hX ho hY (fun q => hzY (.inl q)) (by omega) (by omega)
      exact t_iff (t_not (t_bool (b := true) (e_call (ds := [.int kind, s, o, t, .int n, .int p, .str (mch m)]) (by ktr_unf) ho2 rfl))) (by simp)
    refine st_for ?_
    rw [src_nfcdu]
    have set1 : ∀ (o1 : Option D) (v : D), ([some sc, o1, some (.int first), some (.int more), some (.int kind), some (.int p), some (.int b), some s, some o, some t, some (.int n), some (.int x)] : Rho).set 1 (some v) = [some sc, some v, some (.int first), some (.int more), some (.int kind), some (.int p), some (.int b), some s, some o, some t, some (.int n), some (.int x)] := fun _ _ => rfl
    unfold wpFor; rw [set1]
    refine turn .n _ ?_
    unfold wpFor; rw [set1]
    refine turn .f _ ?_
    unfold wpFor; rw [set1]
    refine turn .c _ ?_
    unfold wpFor; rw [set1]
    refine turn .d _ ?_
    unfold wpFor; rw [set1]
    refine turn .u _ ?_
    unfold wpFor
    refine st_ret ?_
    ktr_unf
  -- the other operand is cut
  have cut : ∀ (o t : D) (a c e V tg tm te : Int), Ot o a c e V → Rw t tg tm te → (kind = 3 ∨ kind = 6 → tm ≠ 0) → wpSs (Ok W 8) [some sc, none, some (.int first), some (.int more), some (.int kind), some (.int p), some (.int b), some s, some o, some t, none, none] (b_law.drop 5) (fun _ => False) (· = .bool true) := by
    intro o t a c e V tg tm te ho kt htm
    show wpSs _ _ (MS.ite _ _ _ :: b_law.drop 6) _ _
    refine st_ite (C := (30 : Int) < Builtin.Int.intBits c) (t_gt (e_item (d := o) (by ktr_unf) (by rw [ho.k.hd]; exact (it _ _ _ _).2.2.2) rfl) (by ktr_unf)) (fun z => ?_) (fun z => st_nil (fin o t _ tg tm te (ho.nu (by omega)) kt htm))
    obtain ⟨d', q1, X', q2⟩ := cut_nu H ho
    refine st_asg (x := d') (e_call (ds := [o, .int 30, .str (mch .d)]) (by ktr_unf; rfl) (q1.more (by omega)) rfl) (by ktr_rel) (st_nil (fin d' t _ tg tm te q2 kt htm))
  -- the near operands
  have near : ∀ (t : D) (tg tm te : Int), Rw t tg tm te → -90 ≤ te → te ≤ 90 → (kind = 3 ∨ kind = 6 → tm ≠ 0) → wpSs (Ok W 8) [some sc, none, some (.int first), some (.int more), some (.int kind), some (.int p), some (.int b), some s, some o, some t, none, none] (b_law.drop 4) (fun _ => False) (· = .bool true) := by
    intro t tg tm te kt lt ut htm
    show wpSs _ _ (MS.ite _ _ _ :: b_law.drop 5) _ _
    have rs := ks.hd
    have ro := ko.hd
    have rt := kt.hd
    refine st_ite (C := (first.fdiv 30000).fmod 2 = 0 ∧ 0 < sm) (t_and (t_eq (by ktr_unf; exact ⟨⟨by decide, by decide⟩, by decide, trivial⟩) (by ktr_unf)) fun _ => t_gt (e_item (d := s) (by ktr_unf) (by rw [rs]; exact (it _ _ _ _).2.1) rfl) (by ktr_unf)) (fun z => ?_) (fun z => ?_)
    · obtain ⟨o', q1, a, c, e, V, q2⟩ := sum_ot H ks bs ls us ko.hsg (by omega)
      refine st_asg (x := o') (e_call (ds := [s, num og 1 (se - 3) 1]) (es_cons (x := s) (by ktr_unf) (es_cons (x := num og 1 (se - 3) 1) ?_ (es_nil rfl))) (q1.more (by omega)) rfl) (by ktr_rel) ?_
      · unfold wpE
        refine es_cons (x := .int og) (e_item (d := o) (by ktr_unf) (by rw [ro]; exact (it _ _ _ _).1) rfl) (es_cons (x := .int 1) (by ktr_unf) (es_cons (x := .int (se - 3)) (e_bin (d := .int 0) (a := .int se) (b := .int 3) (e_item (d := s) (by ktr_unf) (by rw [rs]; exact (it _ _ _ _).2.2.1) rfl) (by ktr_unf) rfl) (es_cons (x := .int 1) (by ktr_unf) (es_nil rfl))))
      have hm6 := fmod_pos (a := more) (b := 6) (by decide)
      by_cases z2 : kind < 2 ∧ 0 < tm
      · have kt' : Rw (num tg tm (se - p + more.fmod 6) (Builtin.Int.intBits tm)) tg tm (se - p + more.fmod 6) := ⟨rfl, kt.hsg, kt.hman, kt.hb, by omega, fun q => by omega, kt.hodd⟩
        refine st_asg (x := num tg tm (se - p + more.fmod 6) (Builtin.Int.intBits tm)) (e_ife (t_and (A := kind < 2) (B := 0 < tm) (by ktr_unf) fun _ => t_gt (e_item (d := t) (by ktr_unf) (by rw [rt]; exact (it _ _ _ _).2.1) rfl) (by ktr_unf)) (fun _ => ?_) (fun q => absurd z2 q)) (by ktr_rel) (st_nil (cut o' _ _ _ _ _ tg tm _ q2 kt' htm))
        unfold wpE
        refine es_cons (x := .int tg) (e_item (d := t) (by ktr_unf) (by rw [rt]; exact (it _ _ _ _).1) rfl) (es_cons (x := .int tm) (e_item (d := t) (by ktr_unf) (by rw [rt]; exact (it _ _ _ _).2.1) rfl) (es_cons (x := .int (se - p + more.fmod 6)) (e_bin (d := .int 0) (a := .int (se - p)) (b := .int (more.fmod 6)) (e_bin (d := .int 0) (a := .int se) (b := .int p) (e_item (d := s) (by ktr_unf) (by rw [rs]; exact (it _ _ _ _).2.2.1) rfl) (by ktr_unf) rfl) (by ktr_unf; exact ⟨by decide, trivial⟩) rfl) (es_cons (x := .int (Builtin.Int.intBits tm)) (e_item (d := t) (by ktr_unf) (by rw [rt]; exact (it _ _ _ _).2.2.2) rfl) (es_nil rfl))))
      · refine st_asg (x := t) (e_ife (t_and (A := kind < 2) (B := 0 < tm) (by ktr_unf) fun _ => t_gt (e_item (d := t) (by ktr_unf) (by rw [rt]; exact (it _ _ _ _).2.1) rfl) (by ktr_unf)) (fun q => absurd q z2) (fun _ => by ktr_unf)) (by ktr_rel) (st_nil (cut o' t _ _ _ _ tg tm te q2 kt htm))
    · obtain ⟨V, q2⟩ := ko.ot bo lo uo
      exact st_nil (cut o t _ _ _ _ tg tm te q2 kt htm)
  -- no division by nought
  refine st_ite (C := tm = 0 ∧ (kind = 3 ∨ kind = 6)) (t_and (t_eq (e_item (d := t) (by ktr_unf) (by rw [kt.hd]; exact (it _ _ _ _).2.1) rfl) (by ktr_unf)) fun _ => t_cmp (a := .int kind) (b := .list [.int 3, .int 6]) (by ktr_unf) (by ktr_unf) rfl (by rw [decide_eq_true_eq]; omega)) (fun z => ?_) (fun z => st_nil (near t tg tm te kt lt ut (fun q => by omega)))
  refine st_asg (x := num 1 5 0 3) (by ktr_unf) (by ktr_rel) (st_nil (near (num 1 5 0 3) 1 5 0 ⟨rfl, .inr rfl, by omega, by decide, by omega, fun q => by omega, fun _ => by decide⟩ (by omega) (by omega) (fun _ => by decide)))
end
end Mine

end

section
open PySem PySem.Calls
set_option maxRecDepth 100000
set_option linter.unusedVariables false
set_option linter.unusedSimpArgs false
namespace Mine
open PySem.W (Frag nsIn mg_of mg_none_of codeIn codeRec_of)

theorem bindL_other {kd : Str → Option NameKind} {x : Str} : ∀ {r : List (Str × Value)} {m : Str → Option Value}, (∀ p ∈ r, p.1 ≠ x) → bindL kd r m x = m x
  | [], m, _ => rfl
  | (n, v) :: r, m, h => by
    unfold bindL
    rw [bindL_other (fun p hp => h p (List.mem_cons_of_mem _ hp))]
    have : x ≠ n := fun q => h (n, v) List.mem_cons_self q.symm
    split
    · simp [this]
    · rfl
theorem bindC_other {kd : Str → Option NameKind} {x : Str} : ∀ {r : List (Str × Value)} {m : Str → Option Value}, (∀ p ∈ r, p.1 ≠ x) → bindC kd r m x = m x
  | [], m, _ => rfl
  | (n, v) :: r, m, h => by
    unfold bindC
    rw [bindC_other (fun p hp => h p (List.mem_cons_of_mem _ hp))]
    have : x ≠ n := fun q => h (n, v) List.mem_cons_self q.symm
    split
    · rfl
    · simp [this]
theorem zip_fst {names : List Str} {vs : List Value} {p : Str × Value} (h : p ∈ names.zip vs) : p.1 ∈ names := (List.of_mem_zip (a := p.1) (b := p.2) h).1
theorem bindL_at {kd : Str → Option NameKind} {x : Str} {v : Value} : ∀ {names : List Str} {vs : List Value} {i : Nat} {m : Str → Option Value}, names.Nodup → names[i]? = some x → vs[i]? = some v → kd x = some .local → bindL kd (names.zip vs) m x = some v
  | [], _, _, _, _, h, _, _ => by simp at h
  | _ :: _, [], _, _, _, _, h, _ => by simp at h
  | n :: names, u :: vs, i, m, hn, h1, h2, hk => by
    rw [List.nodup_cons] at hn
    rw [List.zip_cons_cons]
    unfold bindL
    cases i with
    | zero =>
      simp only [List.getElem?_cons_zero, Option.some.injEq] at h1 h2
      subst h1; subst h2
      rw [if_pos hk, bindL_other (fun p hp q => hn.1 (by have := zip_fst hp; rw [q] at this; exact this))]
      simp
    | succ i =>
      simp only [List.getElem?_cons_succ] at h1 h2
      exact bindL_at hn.2 h1 h2 hk
theorem bindC_at {kd : Str → Option NameKind} {x : Str} {v : Value} : ∀ {names : List Str} {vs : List Value} {i : Nat} {m : Str → Option Value}, names.Nodup → names[i]? = some x → vs[i]? = some v → kd x = some .cell → bindC kd (names.zip vs) m x = some v
  | [], _, _, _, _, h, _, _ => by simp at h
  | _ :: _, [], _, _, _, _, h, _ => by simp at h
  | n :: names, u :: vs, i, m, hn, h1, h2, hk => by
    rw [List.nodup_cons] at hn
    rw [List.zip_cons_cons]
    unfold bindC
    cases i with
    | zero =>
      simp only [List.getElem?_cons_zero, Option.some.injEq] at h1 h2
      subst h1; subst h2
      rw [if_neg (by rw [hk]; decide), bindC_other (fun p hp q => hn.1 (by have := zip_fst hp; rw [q] at this; exact this))]
      simp
    | succ i =>
      simp only [List.getElem?_cons_succ] at h1 h2
      exact bindC_at hn.2 h1 h2 hk

theorem cells_acc {x : Str} : ∀ (names : List (Str × NameKind)) (n : Nat) (acc : List (Str × Addr)), (acc.lookup x).isSome = true → ((cellsFrom n names acc).lookup x).isSome = true
  | [], _, _, h => h
  | (y, k) :: r, n, acc, h => by
    unfold cellsFrom
    split
    · refine cells_acc r _ _ ?_
      rw [List.lookup_cons]
      split
      · rfl
      · exact h
    · exact cells_acc r _ _ h
theorem cells_some {x : Str} : ∀ (names : List (Str × NameKind)) (n : Nat) (acc : List (Str × Addr)), names.lookup x = some .cell → ((cellsFrom n names acc).lookup x).isSome = true
  | [], _, _, h => by cases h
  | (y, k) :: r, n, acc, h => by
    rw [List.lookup_cons] at h
    unfold cellsFrom
    cases q : x == y with
    | true =>
      rw [q] at h
      cases h
      rw [if_pos (by rfl)]
      refine cells_acc r _ _ ?_
      rw [List.lookup_cons, q]; rfl
    | false =>
      rw [q] at h
      split
      · exact cells_some r _ _ h
      · exact cells_some r _ _ h

def locChkC (K : Frag) (f : Str) (names : List Str) : Bool := names.all fun x => (fdOf K f).scope.names.lookup x == some .local || (fdOf K f).scope.names.lookup x == some .cell

theorem ok_of_cells {W : Wd} {n : Nat} {f : Str} {ns : List Str} {body : List MS} {full : List D} {d : D} (S : ShdAt W) (hc : fnChk W.K f ns body = true) (hl : locChkC W.K f (ns.take full.length) = true) (hlen : full.length ≤ ns.length)
    (hb : ∀ vals : List Value, vals.length = full.length → bindArgs (fdOf W.K f) ⟨vals, []⟩ = pure ((ns.take full.length).zip vals)) (h : wpSs (Ok W n) (full.map some ++ List.replicate (ns.length - full.length) none) body (fun _ => False) (· = d)) : Ok W (n + 1) f full d := by
  obtain ⟨h1, h2, h3, h4, h5, h6, h7, h8, h9, h10, h11, h12, h13⟩ := fnChk_of hc
  unfold locChkC at hl
  simp only [List.all_eq_true, Bool.or_eq_true, beq_iff_eq] at hl
  refine ⟨_, _, _, h1, h2, h3, fun A s vs R G hvs => ?_⟩
  have hvl := hvs.length
  have hbind := hb vs hvl
  have hnl : (ns.take full.length).length = full.length := by rw [List.length_take]; omega
  have hnd := nodup_take (k := full.length) h12
  refine wpAny_call (codeAny_call_cells (R := fun r s' => match r with | .ok (.ret v) => Post s (· = d) v s' | .ok _ => False | .error e => F0 e s') (by have := R.depth; omega) (G.X _ _ h2) h3 G.T.nolimit (codeRec_of G.X h11) h4 hbind h9 (fun y hy => ?_) (fun s1 x => ?_) h6 h7 h5)
  · have : y.1 ∈ ns.take full.length := zip_fst hy
    exact (hl _ this).imp id fun q => ⟨q, cells_some _ _ _ q⟩
  · have H : EnvOK (callEnvC (fdOf W.K f) s.heap.objs.size (faOf W.K f)) := ⟨h5, h8, h10, fun x e => Option.isSome_iff_exists.mp (cells_some _ _ _ e)⟩
    have w : Own s.heap (callEnvC (fdOf W.K f) s.heap.objs.size (faOf W.K f)) := ⟨Nat.le_refl _, fun y c e => Nat.le_of_lt (x.above y c (mem_of_lookup e)), fun y z c e1 e2 => name_of_addr x.apart (mem_of_lookup e1) (mem_of_lookup e2)⟩
    obtain ⟨h0, tk, rfl⟩ := x.toInCall.same
    have F : FInv s.heap ns (callEnvC (fdOf W.K f) s.heap.objs.size (faOf W.K f)) h0 (full.map some ++ List.replicate (ns.length - full.length) none) := by
      refine ⟨⟨_, x.toInCall.ns, fun i y dd a e l => ?_⟩, x.toInCall.keep, fun y c e => ⟨_, x.cell y c e⟩⟩
      have hi : i < full.length := by
        by_cases q : i < full.length
        · exact q
        · rw [List.getElem?_append_right (by simp; omega)] at e
          simp only [List.getElem?_replicate] at e
          split at e <;> cases e
      rw [List.getElem?_append_left (by simpa using hi), List.getElem?_map] at e
      have he : full[i]? = some dd := by
        cases q : full[i]? with
        | none => rw [q] at e; cases e
        | some z => rw [q] at e; cases e; rfl
      obtain ⟨v, hv, rv⟩ := hvs.get he
      refine ⟨v, ?_, rv.ext x.toInCall.keep⟩
      have hx : (ns.take full.length)[i]? = some y := by rw [List.getElem?_take, if_pos hi]; exact a
      unfold VarAt
      rcases hl _ (List.mem_of_getElem? hx) with q | q
      · have q' : (callEnvC (fdOf W.K f) s.heap.objs.size (faOf W.K f)).scope.names.lookup y = some .local := q
        rw [q']
        exact bindL_at hnd hx hv q'
      · have q' : (callEnvC (fdOf W.K f) s.heap.objs.size (faOf W.K f)).scope.names.lookup y = some .cell := q
        rw [q']
        obtain ⟨c, ec⟩ := H.ce y q'
        have := x.cell y c ec
        rw [bindC_at hnd hx hv q'] at this
        exact ⟨c, ec, this⟩
    refine wpF (wpAny_mono (sSs S (R.deeper _) H w h12 G body (s := { s with heap := h0, toks := tk }) h13 F h) (fun fl s' q => ?_) fun _ _ e => e)
    obtain ⟨h', t', rfl, o', r'⟩ := q
    cases fl with
    | ret v =>
      obtain ⟨x', dd, rr, rfl⟩ := r'
      exact Post.mk (s := s) x' rr rfl
    | next => obtain ⟨_, _, hF⟩ := r'; exact hF.elim
    | brk => exact r'.elim
    | cont => exact r'.elim

theorem bd_steps (P : Params) (v0 v1 v2 v3 v4 v5 : Value) : bindArgs (fdOf (Mine.hd.heap_39 P) ("_law_steps_right" : Str)) ⟨[v0, v1, v2, v3, v4, v5], []⟩ = pure ((n_law_steps_right.take 6).zip [v0, v1, v2, v3, v4, v5]) := by kernel_rfl
theorem steps_ok {W : Wd} {P : Params} (H : Here W P) {kind E n : Int} {s t : D} {C : Cut} {p x : Nat} (hv : Val kind E s t n C) (hp : 30 ≤ p) (hp2 : p + x ≤ 900) : Ok W 7 ("_law_steps_right" : Str) [.int kind, s, t, .int n, .int p, .int x] (.bool true) := by
  refine ok_of_cells (ns := n_law_steps_right) (body := b_law_steps_right) H.S (by rw [H.K]; exact k_law_steps_right P) (by rw [H.K]; kernel_rfl) (show 6 ≤ n_law_steps_right.length by decide) (fun vals h => ?_) (steps_wp H hv hp hp2)
  rw [H.K]
  match vals, h with
  | [v0, v1, v2, v3, v4, v5], _ => exact bd_steps P v0 v1 v2 v3 v4 v5
end Mine

end

section
open PySem PySem.Calls
set_option maxRecDepth 100000
set_option linter.unusedVariables false
set_option linter.unusedSimpArgs false
namespace Mine
open PySem.W (Frag nsIn mg_of mg_none_of codeIn codeRec_of)
open PyProof.Rows

theorem rps_ints {h : Heap} : ∀ {vs : List Value} {ns : List Int}, IntsAre vs ns → Rps h vs (ns.map .int)
  | _, _, .nil => .nil
  | _, _, .cons n t r => .cons (.int n t) (rps_ints r)

theorem law_frame {W : Wd} {P : Params} (H : Here W P) {name : Str} {scope : Scope} {fa : Addr} {cd : Value} {g : Heap} {s : Shared} {m : Str → Option Value} {o : Obj} {ns : List Int} {vs : List Value} {l : Addr} {body : List Stmt}
    (F : Fr g g.objs.size s.heap m) (N : News g g.objs.size s.heap [(g.objs.size + 1, o)]) (ho : o.data = .cell (some (.ref l))) (hL : g.IsList l vs.toArray) (hI : IntsAre vs ns) (hlen : ns.length < 100) (Gg : Gd W g)
    (hsc : scope.kind = .function) (hcells : cellsFrom (g.objs.size + 1) scope.names [] = [(("script" : Str), g.objs.size + 1)]) (hscr : scope.names.lookup ("script" : Str) = some .cell) (hm : mSs W.K scope.names n_law b_law body = true) (hnd : n_law.Nodup) :
    wpAny (model W.prog W.w) (callerA.deeper (envOfC name scope g.objs.size fa cd)) (execs body (envOfC name scope g.objs.size fa cd)) (fun fl s' => ∃ h' tk, s' = { s with heap := h', toks := tk } ∧ Ext g h' ∧ fl = .ret (.bool true)) F0 s := by
  have hlk : ∀ x c, (envOfC name scope g.objs.size fa cd).cells.lookup x = some c → x = ("script" : Str) ∧ c = g.objs.size + 1 := by
    intro x c e
    have e' : (cellsFrom (g.objs.size + 1) scope.names []).lookup x = some c := e
    rw [hcells, List.lookup_cons] at e'
    cases q : x == ("script" : Str) with
    | true => rw [q] at e'; cases e'; exact ⟨beq_iff_eq.mp q, rfl⟩
    | false => rw [q] at e'; cases e'
  have hcell : s.heap.IsCell (g.objs.size + 1) (some (.ref l)) := ⟨o, (N _ List.mem_cons_self).1, ho⟩
  have E : EnvOK (envOfC name scope g.objs.size fa cd) := ⟨hsc, rfl, rfl, fun x e => Option.isSome_iff_exists.mp (cells_some _ _ _ e)⟩
  have w : Own g (envOfC name scope g.objs.size fa cd) := ⟨Nat.le_refl _, fun x c e => by rw [(hlk x c e).2]; exact Nat.le_succ _, fun x y c e1 e2 => (hlk x c e1).1.trans (hlk y c e2).1.symm⟩
  have FI : FInv g n_law (envOfC name scope g.objs.size fa cd) s.heap [some (.list (ns.map .int)), none, none, none, none, none, none, none, none, none, none, none] := by
    refine ⟨⟨m, F.ns, fun i x d a e lo => ?_⟩, F.keep, fun x c e => ⟨some (.ref l), by rw [(hlk x c e).2]; exact hcell⟩⟩
    have hi : i = 0 := by
      cases i with
      | zero => rfl
      | succ i =>
        exfalso
        have : ∀ (k : Nat) (j : Nat), (List.replicate k (none : Option D))[j]? ≠ some (some d) := fun k j q => by
          rw [List.getElem?_replicate] at q
          split at q <;> cases q
        exact this 11 i e
    subst hi
    cases e
    cases a
    refine ⟨.ref l, ?_, ?_⟩
    · unfold VarAt
      have : (envOfC name scope g.objs.size fa cd).scope.names.lookup ("script" : Str) = some .cell := hscr
      rw [this]
      refine ⟨g.objs.size + 1, ?_, hcell⟩
      show (cellsFrom (g.objs.size + 1) scope.names []).lookup ("script" : Str) = _
      rw [hcells]; rfl
    · obtain ⟨ob, e1, e2, nn, e3⟩ := hL
      exact .lst (F.keep _ _ e1) e2 e3 (by simpa using rps_ints hI)
  have R : Room 8 (callerA.deeper (envOfC name scope g.objs.size fa cd)) := ⟨rfl, by show 302 + 8 < recursionLimit; decide, by show 7 + 8 * 8 + 100 < cLine; decide⟩
  refine wpAny_mono (sSs H.S R E w hnd Gg b_law hm FI (law_wp H (fun hv hp hp2 => steps_ok H hv hp hp2) hlen)) (fun fl s' q => ?_) fun _ _ x => x
  obtain ⟨h', tk, rfl, _, r⟩ := q
  cases fl with
  | ret v =>
    obtain ⟨x, d, rr, rfl⟩ := r
    cases rr
    exact ⟨h', tk, rfl, x, rfl⟩
  | next => obtain ⟨_, _, hF⟩ := r; exact hF.elim
  | brk => exact r.elim
  | cont => exact r.elim
end Mine

end

section
open PySem PySem.Calls PySem.W PyProof.Rows
set_option maxRecDepth 100000
set_option linter.unusedVariables false
namespace Mine
def shdA (K : Frag) : Addr := match nsIn K mainGlobals ("shifts_down" : Str) with
  | some (some (.ref a)) => a
  | _ => 0
def shdE (K : Frag) : Array DictEntry := match K.lookup (shdA K) with
  | some ⟨_, _, .dict es _, _⟩ => es
  | _ => #[]
def shdN (K : Frag) : Nat := match K.lookup (shdA K) with
  | some ⟨_, _, .dict _ n, _⟩ => n
  | _ => 0
theorem sh1 (P : Params) : nsIn (Mine.hd.heap_39 P) mainGlobals ("shifts_down" : Str) = some (some (.ref (shdA (Mine.hd.heap_39 P)))) := by kernel_rfl
theorem sh2 (P : Params) : (Mine.hd.heap_39 P).lookup (shdA (Mine.hd.heap_39 P)) = some ⟨.type "dict", none, .dict (shdE (Mine.hd.heap_39 P)) (shdN (Mine.hd.heap_39 P)), #[]⟩ := by kernel_rfl
def keyL (P : Params) (e : DictEntry) : Prop := ∃ x t, e.key = .str x t ∧ e.hash = PyData.keyHash P x
def keyS : Value → Str
  | .str x _ => x
  | _ => Str.empty
def keyT : Value → Tok
  | .str _ t => t
  | _ => default
def look (K : Frag) (x : Str) : Option Value := match nsIn K (shdA K) x with
  | some (some v) => some v
  | _ => none
theorem sh5 (P : Params) : tupIn (Mine.hd.heap_39 P) ((look (Mine.hd.heap_39 P) chF).getD .none) [1, 0] = true ∧ tupIn (Mine.hd.heap_39 P) ((look (Mine.hd.heap_39 P) chC).getD .none) [0, 1] = true ∧ tupIn (Mine.hd.heap_39 P) ((look (Mine.hd.heap_39 P) chD).getD .none) [1, 1] = true ∧ tupIn (Mine.hd.heap_39 P) ((look (Mine.hd.heap_39 P) chU).getD .none) [0, 0] = true := ⟨by kernel_rfl, by kernel_rfl, by kernel_rfl, by kernel_rfl⟩
theorem sh6 (P : Params) : nsIn (Mine.hd.heap_39 P) (shdA (Mine.hd.heap_39 P)) chF = some (some ((look (Mine.hd.heap_39 P) chF).getD .none)) ∧ nsIn (Mine.hd.heap_39 P) (shdA (Mine.hd.heap_39 P)) chC = some (some ((look (Mine.hd.heap_39 P) chC).getD .none)) ∧ nsIn (Mine.hd.heap_39 P) (shdA (Mine.hd.heap_39 P)) chD = some (some ((look (Mine.hd.heap_39 P) chD).getD .none)) ∧ nsIn (Mine.hd.heap_39 P) (shdA (Mine.hd.heap_39 P)) chU = some (some ((look (Mine.hd.heap_39 P) chU).getD .none)) := ⟨by kernel_rfl, by kernel_rfl, by kernel_rfl, by kernel_rfl⟩
theorem sh3 (P : Params) : KeysLit P (shdE (Mine.hd.heap_39 P)).toList := by
  have hl : (shdE (Mine.hd.heap_39 P)).toList = [(shdE (Mine.hd.heap_39 P)).getD 0 default, (shdE (Mine.hd.heap_39 P)).getD 1 default, (shdE (Mine.hd.heap_39 P)).getD 2 default, (shdE (Mine.hd.heap_39 P)).getD 3 default] := by kernel_rfl
  rw [hl]
  exact ⟨⟨keyS ((shdE (Mine.hd.heap_39 P)).getD 0 default).key, keyT ((shdE (Mine.hd.heap_39 P)).getD 0 default).key, by kernel_rfl, by kernel_rfl⟩, ⟨keyS ((shdE (Mine.hd.heap_39 P)).getD 1 default).key, keyT ((shdE (Mine.hd.heap_39 P)).getD 1 default).key, by kernel_rfl, by kernel_rfl⟩, ⟨keyS ((shdE (Mine.hd.heap_39 P)).getD 2 default).key, keyT ((shdE (Mine.hd.heap_39 P)).getD 2 default).key, by kernel_rfl, by kernel_rfl⟩, ⟨keyS ((shdE (Mine.hd.heap_39 P)).getD 3 default).key, keyT ((shdE (Mine.hd.heap_39 P)).getD 3 default).key, by kernel_rfl, by kernel_rfl⟩, trivial⟩
theorem here {W : Wd} (hK : W.K = Mine.hd.heap_39 W.w.params) : Here W W.w.params := by
  refine ⟨hK, shdA W.K, shdE W.K, shdN W.K, ?_, ?_, ?_, fun x d e => ?_⟩
  · rw [hK]; exact sh1 _
  · rw [hK]; exact sh2 _
  · rw [hK]; exact sh3 _
  · rw [hK]
    obtain ⟨t1, t2, t3, t4⟩ := sh5 W.w.params
    obtain ⟨n1, n2, n3, n4⟩ := sh6 W.w.params
    unfold shdD at e
    dsimp only at e
    split at e
    · rename_i q; cases e; rw [q]; exact ⟨_, [1, 0], n1, t1, rfl⟩
    · split at e
      · rename_i q; cases e; rw [q]; exact ⟨_, [0, 1], n2, t2, rfl⟩
      · split at e
        · rename_i q; cases e; rw [q]; exact ⟨_, [1, 1], n3, t3, rfl⟩
        · split at e
          · rename_i q; cases e; rw [q]; exact ⟨_, [0, 0], n4, t4, rfl⟩
          · cases e
end Mine

end

open PySem PySem.W PyProof.Rows
set_option maxRecDepth 100000 in
set_option maxHeartbeats 8000000 in
theorem PySem.Challenge.cw_aj5008_01_holds : PySem.Challenge.rw_aj5008_01.Holds := by
  exact Mine.hd (by
    w_strict k_go0
    (all_goals try k_fold)
    rename_i w s0 s1 mg mb G Y fa o pm doc ho hg KX X V GL T B TE TW wA wB M wC wD hcd ns hs hlay0 hL1 hr1 hl2 as5 as4 l vs as1 hL ra w1 r0 hI hr hc1 hc0 K0 hD h1 tk1 F wo right N0 X0
    refine wpAny_mono (Mine.law_frame (W := ⟨PySem.Challenge.rw_aj5008_01.row.prog, w, Mine.hd.heap_39 w.params, _, _, _, _, _⟩) (P := w.params) (Mine.here rfl) F N0 right hL hI (by omega) ⟨KX, T⟩ rfl rfl rfl (by kernel_rfl) (by decide)) (fun fl s' q => ?_) (fun _ _ h => h.elim)
    obtain ⟨h', tk, rfl, x, rfl⟩ := q
    show GoodW _ _ _ _ _ (.ok (.ret (.bool true))) _
    refine ⟨.inl ⟨.bool true, .bool true, [], rfl, raisesW_false ?_, .bool true, ?_, unshared_nil⟩, x, rfl, hg⟩
    · wrow_none_raised
    · wrow_post)
