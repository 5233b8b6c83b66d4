import PyProof.Rows.All
import Wide.All
import OpenK.AllK
import Wide.FinOn
import PyProof.EqAt
import PyProof.NeKinds
import Lean
import PySem.Challenge.RW_uc0024_01
set_option Elab.async false
set_option maxRecDepth 100000
set_option linter.unusedVariables false
set_option linter.unnecessarySimpa false
set_option linter.unusedSectionVars false

section
open PySem PySem.W PyProof.Rows PySem.MeetsSeq

namespace PL

abbrev PH := Addr → Option Obj
def PSub (Z Z' : PH) : Prop := ∀ a o, Z a = some o → Z' a = some o
def PIn (Z : PH) (h : Heap) : Prop := ∀ a o, Z a = some o → h.get? a = some o
theorem PSub.refl (Z : PH) : PSub Z Z := fun _ _ e => e
theorem PSub.trans {Z Z' Z'' : PH} (x : PSub Z Z') (y : PSub Z' Z'') : PSub Z Z'' := fun a o e => y a o (x a o e)

structure Grow (Z Z' : PH) (h h' : Heap) : Prop where
  sub : PSub Z Z'
  inn : PIn Z' h'
  new : ∀ a o, Z' a = some o → Z a = some o ∨ h.get? a = none

theorem keeps_refl (s : Shared) : Keeps s s := ⟨s.heap, s.toks, rfl, fun _ _ e => e⟩
theorem keeps_tok (s : Shared) (t : Nat) : Keeps s { s with toks := t } := ⟨s.heap, t, rfl, fun _ _ e => e⟩
theorem keeps_trans {s s1 s2 : Shared} (x : Keeps s s1) (y : Keeps s1 s2) : Keeps s s2 := by
  obtain ⟨h1, t1, rfl, k1⟩ := x
  obtain ⟨h2, t2, rfl, k2⟩ := y
  exact ⟨h2, t2, rfl, fun b o e => k2 b o (k1 b o e)⟩
theorem kk {s s' : Shared} (x : Keeps s s') : ∀ b o, s.heap.get? b = some o → s'.heap.get? b = some o := by
  obtain ⟨h1, t1, rfl, k1⟩ := x
  exact k1

theorem Grow.refl {Z : PH} {s s' : Shared} (i : PIn Z s.heap) (k : Keeps s s') : Grow Z Z s.heap s'.heap :=
  ⟨PSub.refl Z, fun a o e => kk k a o (i a o e), fun _ _ e => .inl e⟩
theorem Grow.trans {Z Z1 Z2 : PH} {s s1 s2 : Shared} (k : Keeps s s1) (x : Grow Z Z1 s.heap s1.heap) (y : Grow Z1 Z2 s1.heap s2.heap) : Grow Z Z2 s.heap s2.heap :=
  ⟨x.sub.trans y.sub, y.inn, fun a o e => by
    rcases y.new a o e with h | h
    · exact x.new a o h
    · right
      cases q : s.heap.get? a with
      | none => rfl
      | some o' => rw [kk k a o' q] at h; cases h⟩

/-- abstract values: tokens forgotten -/
inductive AV where
  | none
  | bool (b : Bool)
  | int (i : Int)
  | str (s : Str)
  | list (xs : List AV)
  | tup (xs : List AV)
  | rng (a b c : Int)
  | ilist (ns : List Int)
  | qn (C a : Addr) (t : Str)
  | ref (a : Addr)
  | val (v : Value)
  | lam (params : Arguments) (body : Expr) (scope : Scope) (qual : Str) (caps : List (Str × Value))

abbrev listO (vs : Array Value) (n : Nat) : Obj := { cls := .type "list", data := .seq vs n }
abbrev tupO (vs : Array Value) (n : Nat) : Obj := { cls := .type "tuple", data := .seq vs n }

def PCell (Z : PH) (c : Addr) (v : Value) : Prop := ∃ o, Z c = some o ∧ o.data = .cell (some v)
def PCode (Z : PH) (cd : Value) (qual : Str) : Prop := ∃ c oc vs tq, cd = .ref c ∧ Z c = some oc ∧ oc.data = .fields vs ∧ vs[1]? = some (.str qual tq)

inductive VR (Z : PH) : AV → Value → Prop
  | none : VR Z .none .none
  | bool {b : Bool} : VR Z (.bool b) (.bool b)
  | int {i : Int} {t : Tok} : VR Z (.int i) (.int i t)
  | str {s : Str} {t : Tok} : VR Z (.str s) (.str s t)
  | list {xs : List AV} {a : Addr} {vs : Array Value} {n : Nat} : Z a = some (listO vs n) → vs.size = xs.length → (∀ (i : Nat) (x : AV) (v : Value), xs[i]? = some x → vs[i]? = some v → VR Z x v) → VR Z (.list xs) (.ref a)
  | tup {xs : List AV} {a : Addr} {vs : Array Value} {n : Nat} : Z a = some (tupO vs n) → vs.size = xs.length → (∀ (i : Nat) (x : AV) (v : Value), xs[i]? = some x → vs[i]? = some v → VR Z x v) → VR Z (.tup xs) (.ref a)
  | rng {a b c : Int} {r : Addr} {t u v : Tok} : Z r = some { cls := .type "range", dict := none, data := .fields #[.int a t, .int b u, .int c v], slots := #[] } → VR Z (.rng a b c) (.ref r)
  | ilist {ns : List Int} {a : Addr} {o : Obj} {vs : Array Value} {n : Nat} : Z a = some o → o.cls = .type "list" → o.data = .seq vs n → IntsAre vs.toList ns → VR Z (.ilist ns) (.ref a)
  | qn {C a dx : Addr} {t : Str} {hs : Int} {tk tk' : Tok} {n : Nat} : Z a = some (instObj C dx) → Z dx = some (dictOf [⟨hs, .str "text" tk, .str t tk'⟩] n) → VR Z (.qn C a t) (.ref a)
  | ref {a : Addr} : VR Z (.ref a) (.ref a)
  | val {v : Value} : VR Z (.val v) v
  | lam {params : Arguments} {body : Expr} {scope : Scope} {qual : Str} {caps : List (Str × Value)} {a : Addr} {clos : List (Str × Addr)} {doc pm cv ctv : Value} {name : Str} :
      Z a = some { cls := .type "function", data := .func { name, qualname := qual, params, body := .expr body, scope, globals := mainGlobals, closure := clos, defaults := .none, kwdefaults := .none, doc, pyModule := pm, annotations := Option.none, code := cv, closureTuple := ctv, builtins := builtinsNs } } →
      PCode Z cv qual → (∀ x v, caps.lookup x = some v → ∃ c, clos.lookup x = some c ∧ PCell Z c v) → VR Z (.lam params body scope qual caps) (.ref a)

theorem PCell.mono {Z Z' : PH} (k : PSub Z Z') {c : Addr} {v : Value} (x : PCell Z c v) : PCell Z' c v := let ⟨o, e, d⟩ := x; ⟨o, k _ _ e, d⟩
theorem PCode.mono {Z Z' : PH} (k : PSub Z Z') {c : Value} {v : Str} (x : PCode Z c v) : PCode Z' c v := let ⟨c, oc, vs, tq, h1, e, r⟩ := x; ⟨c, oc, vs, tq, h1, k _ _ e, r⟩

theorem VR.mono {Z Z' : PH} (k : PSub Z Z') {x : AV} {v : Value} (h : VR Z x v) : VR Z' x v := by
  induction h with
  | none => exact .none
  | bool => exact .bool
  | int => exact .int
  | str => exact .str
  | list e l _ ih => exact .list (k _ _ e) l ih
  | tup e l _ ih => exact .tup (k _ _ e) l ih
  | rng e => exact .rng (k _ _ e)
  | ilist e c d h => exact .ilist (k _ _ e) c d h
  | qn e f => exact .qn (k _ _ e) (k _ _ f)
  | ref => exact .ref
  | val => exact .val
  | lam e c q => exact .lam (k _ _ e) (c.mono k) fun x v hx => let ⟨c, h1, h2⟩ := q x v hx; ⟨c, h1, h2.mono k⟩

abbrev Vars := List (Str × AV)

/-- a variable can be read -/
def VarR (Z : PH) (env : Env) (m : Str → Option Value) (h : Heap) (x : Str) (v : AV) : Prop :=
  ∃ w, VR Z v w ∧ ((env.kindOf x = some .local ∧ m x = some w) ∨ ((env.kindOf x = some .cell ∨ env.kindOf x = some .free) ∧ ∃ c, env.cells.lookup x = some c ∧ h.IsCell c (some w)))

structure FmR (Z : PH) (env : Env) (ρ : Vars) (h : Heap) : Prop where
  kind : env.scope.kind = .function
  gl : env.globals = mainGlobals
  bi : env.builtins = builtinsNs
  vars : ∃ m, h.Ns env.locals m ∧ ∀ x v, ρ.lookup x = some v → VarR Z env m h x v

theorem FmR.mono {Z Z' : PH} {env : Env} {ρ : Vars} {h h' : Heap} (x : FmR Z env ρ h) (k : PSub Z Z') (kh : ∀ b o, h.get? b = some o → h'.get? b = some o) : FmR Z' env ρ h' :=
  let ⟨m, hn, hv⟩ := x.vars
  ⟨x.kind, x.gl, x.bi, m, hn.keeps kh, fun y v e => by
    obtain ⟨w, hw, r⟩ := hv y v e
    refine ⟨w, hw.mono k, ?_⟩
    rcases r with r | ⟨r1, c, r2, r3⟩
    · exact .inl r
    · exact .inr ⟨r1, c, r2, r3.keeps kh⟩⟩

structure Gl where
  prog : Program
  w : World
  Z0 : PH

/-- the base lies below, and a token is given out already -/
structure Bs (G : Gl) (Z : PH) (s : Shared) : Prop where
  sub : PSub G.Z0 Z
  tok : 0 < s.toks

def PPost {α : Type} (Z : PH) (s : Shared) (R : PH → α → Prop) (v : α) (s' : Shared) : Prop := Keeps s s' ∧ ∃ Z', Grow Z Z' s.heap s'.heap ∧ R Z' v

theorem PPost.trans {α : Type} {Z Z1 : PH} {s s1 s' : Shared} {R : PH → α → Prop} {v : α} (k : Keeps s s1) (g : Grow Z Z1 s.heap s1.heap) (p : PPost Z1 s1 R v s') : PPost Z s R v s' :=
  let ⟨k', Z', g', r⟩ := p
  ⟨keeps_trans k k', Z', g.trans k g', r⟩

theorem PPost.same {α : Type} {Z : PH} {s s' : Shared} {R : PH → α → Prop} {v : α} (i : PIn Z s.heap) (k : Keeps s s') (r : R Z v) : PPost Z s R v s' := ⟨k, Z, Grow.refl i k, r⟩

/-- pure: the heap only grows -/
def PW {α : Type} (G : Gl) (A : Around) (env : Env) (ρ : Vars) (t : Sem α) (R : PH → α → Prop) : Prop :=
  ∀ (Z : PH) (s : Shared) (E : Value → Shared → Prop), Bs G Z s → PIn Z s.heap → FmR Z env ρ s.heap → wpAny (model G.prog G.w) A t (PPost Z s R) E s

def PE (G : Gl) (A : Around) (env : Env) (ρ : Vars) (e : Expr) (x : AV) : Prop := PW G A env ρ (eval e env) fun Z v => VR Z x v
def PT (G : Gl) (A : Around) (env : Env) (ρ : Vars) (e : Expr) (b : Bool) : Prop := PW G A env ρ (isTrue e env (eval e env)) fun _ v => v = b

section
variable {α β : Type} {G : Gl} {A : Around} {env : Env} {ρ : Vars}

/-- one step behind another -/
theorem PW.seq {t : Sem α} {R : PH → α → Prop} {Z : PH} {s : Shared} {E : Value → Shared → Prop} {Q : α → Shared → Prop} (h : PW G A env ρ t R) (z : Bs G Z s) (i : PIn Z s.heap) (f : FmR Z env ρ s.heap)
    (k : ∀ v s1 Z1, Keeps s s1 → Grow Z Z1 s.heap s1.heap → R Z1 v → Bs G Z1 s1 → FmR Z1 env ρ s1.heap → Q v s1) : wpAny (model G.prog G.w) A t Q E s :=
  wpAny_mono (wpAny_toks (h Z s E z i f)) (fun v s1 p => let ⟨k1, Z1, g, r⟩ := p.2; k v s1 Z1 k1 g r ⟨z.sub.trans g.sub, Nat.lt_of_lt_of_le z.tok p.1⟩ (f.mono g.sub (kk k1))) fun _ _ e => e.2

theorem PW.mono {t : Sem α} {R R' : PH → α → Prop} (h : PW G A env ρ t R) (k : ∀ Z v, R Z v → R' Z v) : PW G A env ρ t R' :=
  fun Z s E z i f => wpAny_mono (h Z s E z i f) (fun v _ p => let ⟨k1, Z1, g, r⟩ := p; ⟨k1, Z1, g, k _ _ r⟩) fun _ _ e => e

theorem PE_name {x : Str} {v : AV} {pos : Pos} (hv : ρ.lookup x = some v) (hd : (x == ("__debug__" : Str)) = false := by decide) (hc : (x == ("__classdict__" : Str)) = false := by decide) :
    PE G A env ρ (.Name x pos) v := fun Z s E z i f => by
  obtain ⟨hk, _, _, m, hn, hm⟩ := f
  obtain ⟨w, hw, r⟩ := hm x v hv
  refine wpAny_Name ?_ hd
  have fin : PPost Z s (fun Z v' => VR Z v v') w s := PPost.same i (keeps_refl s) hw
  rcases r with ⟨h1, h2⟩ | ⟨h1 | h1, c, h2, h3⟩
  · exact wpAny_loadName_local hk h1 hn h2 fin
  · exact wpAny_loadName_cell hk h1 h2 h3 fin
  · exact wpAny_loadName_free hk h1 h2 h3 fin hc

theorem PE_int {i : Int} {k : Nat} {pos : Pos} : PE G A env ρ (.Constant (.int i) k pos) (.int i) := fun _ s _ _ i _ =>
  wpAny_Constant_int (PPost.same i (keeps_tok s _) .int)
theorem PE_true {b : Bool} {k : Nat} {pos : Pos} : PE G A env ρ (.Constant (.bool b) k pos) (.bool b) := fun _ s _ _ i _ => by
  rw [eval_Constant]; exact wpAny_pure (PPost.same i (keeps_refl s) .bool)
theorem PE_none {k : Nat} {pos : Pos} : PE G A env ρ (.Constant .none k pos) .none := fun _ s _ _ i _ => by
  rw [eval_Constant]; exact wpAny_pure (PPost.same i (keeps_refl s) .none)
theorem PE_str {x : Str} {k : Nat} {pos : Pos} : PE G A env ρ (.Constant (.str x) k pos) (.str x) := fun _ s _ _ i _ => by
  rw [eval_Constant]; exact wpAny_mkText (PPost.same i (keeps_tok s _) .str)

end
end PL

namespace PL

inductive VRs (Z : PH) : List AV → List Value → Prop
  | nil : VRs Z [] []
  | cons {x : AV} {v : Value} {xs : List AV} {vs : List Value} : VR Z x v → VRs Z xs vs → VRs Z (x :: xs) (v :: vs)
theorem VRs.mono {Z Z' : PH} (k : PSub Z Z') {xs : List AV} {vs : List Value} (h : VRs Z xs vs) : VRs Z' xs vs := by
  induction h with
  | nil => exact .nil
  | cons h _ ih => exact .cons (h.mono k) ih
theorem VRs.length {Z : PH} {xs : List AV} {vs : List Value} (h : VRs Z xs vs) : vs.length = xs.length := by
  induction h with
  | nil => rfl
  | cons _ _ ih => simp [ih]
theorem VRs.get {Z : PH} {xs : List AV} {vs : List Value} (h : VRs Z xs vs) : ∀ (i : Nat) (x : AV) (v : Value), xs[i]? = some x → vs[i]? = some v → VR Z x v := by
  induction h with
  | nil => intro i x v e; simp at e
  | cons h _ ih =>
    intro i x v e e'
    cases i with
    | zero => simp at e e'; subst e; subst e'; exact h
    | succ i => simp at e e'; exact ih i x v e e'
theorem VRs.of {Z : PH} {xs : List AV} {vs : List Value} (h : vs.length = xs.length) (k : ∀ (i : Nat) (x : AV) (v : Value), xs[i]? = some x → vs[i]? = some v → VR Z x v) : VRs Z xs vs := by
  induction xs generalizing vs with
  | nil => rw [List.eq_nil_of_length_eq_zero h]; exact .nil
  | cons x xs ih =>
    cases vs with
    | nil => cases h
    | cons v vs => exact .cons (k 0 x v rfl rfl) (ih (Nat.succ.inj h) fun i => k (i + 1))
theorem VRs.append {Z : PH} {xs ys : List AV} {vs us : List Value} (h : VRs Z xs vs) (k : VRs Z ys us) : VRs Z (xs ++ ys) (vs ++ us) := by
  induction h with
  | nil => exact k
  | cons h _ ih => exact .cons h ih
theorem VR.list' {Z : PH} {xs : List AV} {a : Addr} {vs : List Value} {n : Nat} (e : Z a = some (listO vs.toArray n)) (h : VRs Z xs vs) : VR Z (.list xs) (.ref a) :=
  .list e (by simpa using h.length) fun i x v ex ev => h.get i x v ex (by simpa using ev)
theorem VR.tup' {Z : PH} {xs : List AV} {a : Addr} {vs : List Value} {n : Nat} (e : Z a = some (tupO vs.toArray n)) (h : VRs Z xs vs) : VR Z (.tup xs) (.ref a) :=
  .tup e (by simpa using h.length) fun i x v ex ev => h.get i x v ex (by simpa using ev)
theorem VR.listInv {Z : PH} {xs : List AV} {v : Value} (h : VR Z (.list xs) v) : ∃ a vs n, v = .ref a ∧ Z a = some (listO vs n) ∧ VRs Z xs vs.toList := by
  cases h with
  | list e l k => exact ⟨_, _, _, rfl, e, VRs.of (by simpa using l) fun i x v ex ev => k i x v ex (by simpa using ev)⟩
theorem VR.tupInv {Z : PH} {xs : List AV} {v : Value} (h : VR Z (.tup xs) v) : ∃ a vs n, v = .ref a ∧ Z a = some (tupO vs n) ∧ VRs Z xs vs.toList := by
  cases h with
  | tup e l k => exact ⟨_, _, _, rfl, e, VRs.of (by simpa using l) fun i x v ex ev => k i x v ex (by simpa using ev)⟩
theorem VR.intInv {Z : PH} {i : Int} {v : Value} (h : VR Z (.int i) v) : ∃ t, v = .int i t := by cases h; exact ⟨_, rfl⟩
theorem VR.strInv {Z : PH} {i : Str} {v : Value} (h : VR Z (.str i) v) : ∃ t, v = .str i t := by cases h; exact ⟨_, rfl⟩
theorem VR.boolInv {Z : PH} {i : Bool} {v : Value} (h : VR Z (.bool i) v) : v = .bool i := by cases h; rfl
theorem VR.noneInv {Z : PH} {v : Value} (h : VR Z .none v) : v = .none := by cases h; rfl
theorem VR.valInv {Z : PH} {u v : Value} (h : VR Z (.val u) v) : v = u := by cases h; rfl
theorem VR.refInv {Z : PH} {u : Addr} {v : Value} (h : VR Z (.ref u) v) : v = .ref u := by cases h; rfl

/-- new frozen objects -/
def Zp (Z : PH) (a : Addr) (o : Obj) : PH := fun b => if b = a then some o else Z b
theorem Zp.self {Z : PH} {a : Addr} {o : Obj} : Zp Z a o a = some o := by simp [Zp]
theorem Zp.sub {Z : PH} {a : Addr} {o : Obj} {h : Heap} (i : PIn Z h) (n : h.get? a = none) : PSub Z (Zp Z a o) := fun b o' e => by
  unfold Zp
  by_cases q : b = a
  · subst q; rw [i b o' e] at n; cases n
  · rw [if_neg q]; exact e
theorem none_ge {h : Heap} {a : Addr} (q : h.objs.size ≤ a) : h.get? a = none := by
  cases e : h.get? a with
  | none => rfl
  | some o => exact absurd (Heap.lt_size e) (Nat.not_lt.mpr q)
theorem Zp.inn {Z : PH} {a : Addr} {o : Obj} {h h' : Heap} (i : PIn Z h) (k : ∀ b o, h.get? b = some o → h'.get? b = some o) (e : h'.get? a = some o) : PIn (Zp Z a o) h' := fun b o' q => by
  unfold Zp at q
  by_cases r : b = a
  · subst r; rw [if_pos rfl] at q; cases q; exact e
  · rw [if_neg r] at q; exact k _ _ (i b o' q)
theorem Zp.grow {Z : PH} {a : Addr} {o : Obj} {h h' : Heap} (i : PIn Z h) (k : ∀ b o, h.get? b = some o → h'.get? b = some o) (e : h'.get? a = some o) (n : h.get? a = none) : Grow Z (Zp Z a o) h h' :=
  ⟨Zp.sub i n, Zp.inn i k e, fun b o' q => by
    unfold Zp at q
    by_cases r : b = a
    · subst r; exact .inr n
    · rw [if_neg r] at q; exact .inl q⟩

theorem keeps_of {s : Shared} {h' : Heap} {t : Nat} (k : ∀ b o, s.heap.get? b = some o → h'.get? b = some o) : Keeps s { s with heap := h', toks := t } := ⟨h', t, rfl, k⟩
theorem keeps_heap {s : Shared} {h' : Heap} (k : ∀ b o, s.heap.get? b = some o → h'.get? b = some o) : Keeps s { s with heap := h' } := ⟨h', s.toks, rfl, k⟩

structure Room (n : Nat) (A : Around) : Prop where
  handled : A.handled = none
  depth : A.depth + n < recursionLimit
  units : A.units + 100 + 20 * n < cLine
theorem Room.le {n m : Nat} {A : Around} (r : Room n A) (h : m ≤ n) : Room m A := ⟨r.handled, by have := r.depth; omega, by have := r.units; omega⟩
theorem Room.deeper {n : Nat} {A : Around} {env : Env} (r : Room (n + 1) A) : Room n (A.deeper env) :=
  ⟨r.handled, by have := r.depth; show A.depth + 1 + n < _; omega, by have := r.units; show A.units + 3 + 100 + 20 * n < _; omega⟩

section
variable {α β : Type} {G : Gl} {A : Around} {env : Env} {ρ : Vars}

/-! binary operations -/
theorem PE_bin {l r : Expr} {op : Operator} {pos : Pos} {x y z : AV} (hl : PE G A env ρ l x) (hr : PE G A env ρ r y)
    (ho : ∀ Z s E v1 v2, Bs G Z s → PIn Z s.heap → VR Z x v1 → VR Z y v2 → wpAny (model G.prog G.w) A (binaryOp op v1 v2) (PPost Z s fun Z v => VR Z z v) E s) : PE G A env ρ (.BinOp l op r pos) z :=
  fun _ _ _ z0 i f => wpAny_BinOp (hl.seq z0 i f fun _ _ _ k1 g1 r1 z1 f1 => hr.seq z1 g1.inn f1 fun _ _ _ k2 g2 r2 z2 _ =>
    wpAny_mono (ho _ _ _ _ _ z2 g2.inn (r1.mono g2.sub) r2) (fun _ _ p => (p.trans k2 g2).trans k1 g1) fun _ _ e => e)


theorem PE_add {l r : Expr} {pos : Pos} {x y : Int} (hl : PE G A env ρ l (.int x)) (hr : PE G A env ρ r (.int y)) : PE G A env ρ (.BinOp l .Add r pos) (.int (x + y)) :=
  PE_bin hl hr fun Z s E v1 v2 _ i h1 h2 => by
    obtain ⟨t, rfl⟩ := h1.intInv; obtain ⟨u, rfl⟩ := h2.intInv
    exact PySem.P.add_int (PPost.same i (keeps_tok s _) .int)
theorem PE_sub {l r : Expr} {pos : Pos} {x y : Int} (hl : PE G A env ρ l (.int x)) (hr : PE G A env ρ r (.int y)) : PE G A env ρ (.BinOp l .Sub r pos) (.int (x - y)) :=
  PE_bin hl hr fun Z s E v1 v2 _ i h1 h2 => by
    obtain ⟨t, rfl⟩ := h1.intInv; obtain ⟨u, rfl⟩ := h2.intInv
    exact PySem.P.sub_int (PPost.same i (keeps_tok s _) .int)
theorem PE_mul {l r : Expr} {pos : Pos} {x y : Int} (hl : PE G A env ρ l (.int x)) (hr : PE G A env ρ r (.int y)) (b1 : -(2 ^ 64) < x) (b2 : x < 2 ^ 64) : PE G A env ρ (.BinOp l .Mult r pos) (.int (x * y)) :=
  PE_bin hl hr fun Z s E v1 v2 _ i h1 h2 => by
    obtain ⟨t, rfl⟩ := h1.intInv; obtain ⟨u, rfl⟩ := h2.intInv
    exact PySem.P.mul_int (PPost.same i (keeps_tok s _) .int) (IntMulOk.of_left (intBits_le_64 b1 b2))
theorem PE_fdiv {l r : Expr} {pos : Pos} {x y : Int} (hl : PE G A env ρ l (.int x)) (hr : PE G A env ρ r (.int y)) (b1 : y ≠ 0) (b2 : y.natAbs < 1073741824) : PE G A env ρ (.BinOp l .FloorDiv r pos) (.int (x.fdiv y)) :=
  PE_bin hl hr fun Z s E v1 v2 _ i h1 h2 => by
    obtain ⟨t, rfl⟩ := h1.intInv; obtain ⟨u, rfl⟩ := h2.intInv
    exact floordiv_int b1 (PPost.same i (keeps_tok s _) .int) (.inl (PyProof.noPylong_small b2))
theorem PE_mod {l r : Expr} {pos : Pos} {x y : Int} (hl : PE G A env ρ l (.int x)) (hr : PE G A env ρ r (.int y)) (b1 : y ≠ 0) : PE G A env ρ (.BinOp l .Mod r pos) (.int (x.fmod y)) :=
  PE_bin hl hr fun Z s E v1 v2 _ i h1 h2 => by
    obtain ⟨t, rfl⟩ := h1.intInv; obtain ⟨u, rfl⟩ := h2.intInv
    exact mod_int' b1 (PPost.same i (keeps_tok s _) .int)
theorem PE_pow {l r : Expr} {pos : Pos} {x y : Int} (hl : PE G A env ρ l (.int x)) (hr : PE G A env ρ r (.int y)) (b1 : 0 ≤ y) (b2 : y ≤ 1000000) (b3 : x.natAbs < 2 ^ 64) : PE G A env ρ (.BinOp l .Pow r pos) (.int (x ^ y.toNat)) :=
  PE_bin hl hr fun Z s E v1 v2 _ i h1 h2 => by
    obtain ⟨t, rfl⟩ := h1.intInv; obtain ⟨u, rfl⟩ := h2.intInv
    exact pow_int_small b1 b2 b3 (PPost.same i (keeps_tok s _) .int)
theorem PE_adds {l r : Expr} {pos : Pos} {x y : Str} (hl : PE G A env ρ l (.str x)) (hr : PE G A env ρ r (.str y)) (b1 : x.length + y.length ≤ 1000000) : PE G A env ρ (.BinOp l .Add r pos) (.str (x ++ y)) :=
  PE_bin hl hr fun Z s E v1 v2 _ i h1 h2 => by
    obtain ⟨t, rfl⟩ := h1.strInv; obtain ⟨u, rfl⟩ := h2.strInv
    exact add_str (fun t' tk => PPost.same i (keeps_tok s _) .str) (by rw [sizeLine_eq]; omega)

/-- the constant -1 and its kin -/
theorem PE_neg {e : Expr} {pos : Pos} {x : Int} (h : PE G A env ρ e (.int x)) : PE G A env ρ (.UnaryOp .USub e pos) (.int (-x)) := fun Z s E z0 i f => by
  show wpAny _ A (do let v ← eval e env; standAt pos; holding [v] (unaryOp .USub v)) _ _ s
  refine wpAny_bind (h.seq z0 i f fun v s1 Z1 k1 g1 r1 z1 f1 => wpAny_bind (wpAny_standAt (wpAny_holding ?_)))
  obtain ⟨t, rfl⟩ := r1.intInv
  exact PySem.P.neg_int ((PPost.same g1.inn (keeps_tok s1 _) .int).trans k1 g1)

/-! comparisons -/
def CmpOk (G : Gl) (A : Around) (op : CmpOp) (x y : AV) (b : Bool) : Prop :=
  ∀ (Z : PH) (s : Shared) (E : Value → Shared → Prop) (v1 v2 : Value), Bs G Z s → PIn Z s.heap → VR Z x v1 → VR Z y v2 → wpAny (model G.prog G.w) A (compareOp op v1 v2) (fun v s' => v = .bool b ∧ Keeps s s') E s

theorem PE_cmp {l r : Expr} {op : CmpOp} {pos : Pos} {x y : AV} {b : Bool} (hl : PE G A env ρ l x) (hr : PE G A env ρ r y) (ho : CmpOk G A op x y b) (hm : behindInMarks op r = false := by with_unfolding_all rfl) :
    PE G A env ρ (.Compare l [op] [r] pos) (.bool b) :=
  fun _ _ _ z0 i f => wpAny_Compare1 (hl.seq z0 i f fun _ _ _ k1 g1 r1 z1 f1 => hr.seq z1 g1.inn f1 fun _ _ _ k2 g2 r2 z2 _ =>
    wpAny_mono (ho _ _ _ _ _ z2 g2.inn (r1.mono g2.sub) r2) (fun _ _ p => ((PPost.same g2.inn p.2 (p.1 ▸ .bool)).trans k2 g2).trans k1 g1) fun _ _ e => e) hm
theorem PT_cmp {l r : Expr} {op : CmpOp} {pos : Pos} {x y : AV} {b : Bool} (hl : PE G A env ρ l x) (hr : PE G A env ρ r y) (ho : CmpOk G A op x y b) (hm : behindInMarks op r = false := by with_unfolding_all rfl) :
    PT G A env ρ (.Compare l [op] [r] pos) b :=
  fun _ _ _ z0 i f => wpAny_isTrue_Compare1 (hl.seq z0 i f fun _ _ _ k1 g1 r1 z1 f1 => hr.seq z1 g1.inn f1 fun _ _ _ k2 g2 r2 z2 _ =>
    wpAny_mono (ho _ _ _ _ _ z2 g2.inn (r1.mono g2.sub) r2) (fun v _ p => by
      obtain ⟨rfl, p⟩ := p
      exact wpAny_truthy_bool (((PPost.same (R := fun _ v => v = b) g2.inn p rfl).trans k2 g2).trans k1 g1)) fun _ _ e => e) hm

theorem beq_dec {x y : Str} : (x == y) = decide (x = y) := by
  rw [Bool.eq_iff_iff]; simp
theorem cmp_lt {x y : Int} : CmpOk G A .Lt (.int x) (.int y) (decide (x < y)) := fun Z s E v1 v2 _ _ h1 h2 => by
  obtain ⟨t, rfl⟩ := h1.intInv; obtain ⟨u, rfl⟩ := h2.intInv
  exact PySem.P.lt_int ⟨rfl, keeps_refl s⟩
theorem cmp_le {x y : Int} : CmpOk G A .LtE (.int x) (.int y) (decide (x ≤ y)) := fun Z s E v1 v2 _ _ h1 h2 => by
  obtain ⟨t, rfl⟩ := h1.intInv; obtain ⟨u, rfl⟩ := h2.intInv
  exact PySem.P.le_int ⟨rfl, keeps_refl s⟩
theorem cmp_gt {x y : Int} : CmpOk G A .Gt (.int x) (.int y) (decide (y < x)) := fun Z s E v1 v2 _ _ h1 h2 => by
  obtain ⟨t, rfl⟩ := h1.intInv; obtain ⟨u, rfl⟩ := h2.intInv
  exact PySem.P.gt_int ⟨rfl, keeps_refl s⟩
theorem cmp_ge {x y : Int} : CmpOk G A .GtE (.int x) (.int y) (decide (y ≤ x)) := fun Z s E v1 v2 _ _ h1 h2 => by
  obtain ⟨t, rfl⟩ := h1.intInv; obtain ⟨u, rfl⟩ := h2.intInv
  exact PySem.P.ge_int ⟨rfl, keeps_refl s⟩
theorem cmp_eq {x y : Int} : CmpOk G A .Eq (.int x) (.int y) (decide (x = y)) := fun Z s E v1 v2 _ _ h1 h2 => by
  obtain ⟨t, rfl⟩ := h1.intInv; obtain ⟨u, rfl⟩ := h2.intInv
  exact PySem.P.eq_int ⟨rfl, keeps_refl s⟩
theorem cmp_ne {x y : Int} : CmpOk G A .NotEq (.int x) (.int y) (!decide (x = y)) := fun Z s E v1 v2 _ _ h1 h2 => by
  obtain ⟨t, rfl⟩ := h1.intInv; obtain ⟨u, rfl⟩ := h2.intInv
  exact PySem.P.ne_int ⟨rfl, keeps_refl s⟩
theorem cmp_eqs {x y : Str} : CmpOk G A .Eq (.str x) (.str y) (decide (x = y)) := fun Z s E v1 v2 _ _ h1 h2 => by
  obtain ⟨t, rfl⟩ := h1.strInv; obtain ⟨u, rfl⟩ := h2.strInv
  exact eq_str ⟨by rw [beq_dec], keeps_refl s⟩
theorem cmp_nes {x y : Str} : CmpOk G A .NotEq (.str x) (.str y) (!decide (x = y)) := fun Z s E v1 v2 _ _ h1 h2 => by
  obtain ⟨t, rfl⟩ := h1.strInv; obtain ⟨u, rfl⟩ := h2.strInv
  exact ne_str ⟨by rw [bne, beq_dec], keeps_refl s⟩
theorem cmp_lts {x y : Str} : CmpOk G A .Lt (.str x) (.str y) (decide (x.cps.toList < y.cps.toList)) := fun Z s E v1 v2 _ _ h1 h2 => by
  obtain ⟨t, rfl⟩ := h1.strInv; obtain ⟨u, rfl⟩ := h2.strInv
  exact lt_str ⟨rfl, keeps_refl s⟩
theorem cmp_gts {x y : Str} : CmpOk G A .Gt (.str x) (.str y) (decide (y.cps.toList < x.cps.toList)) := fun Z s E v1 v2 _ _ h1 h2 => by
  obtain ⟨t, rfl⟩ := h1.strInv; obtain ⟨u, rfl⟩ := h2.strInv
  exact PySem.P.gt_str ⟨rfl, keeps_refl s⟩
theorem cmp_ins {x y : Str} : CmpOk G A .In (.str y) (.str x) (!(Builtin.Str.occurrences x y 0 x.length 1).isEmpty) := fun Z s E v1 v2 _ _ h1 h2 => by
  obtain ⟨t, rfl⟩ := h1.strInv; obtain ⟨u, rfl⟩ := h2.strInv
  exact in_str ⟨rfl, keeps_refl s⟩
/-- `is`, `is not` for what is plain -/
def notNone : AV → Bool
  | .none => false
  | .val _ => false
  | _ => true
theorem notNone_ne {Z : PH} {x : AV} {v : Value} (h : VR Z x v) (n : notNone x = true) : v ≠ .none := by
  cases h <;> first | (intro e; cases e; done) | (simp [notNone] at n; done) | (exfalso; exact absurd n (by decide))
theorem cmp_isNone {x : AV} (n : notNone x = true) : CmpOk G A .Is x .none false := fun Z s E v1 v2 _ _ h1 h2 => by
  cases h2.noneInv
  exact is_none_ne (notNone_ne h1 n) ⟨rfl, keeps_refl s⟩
theorem cmp_isntNone {x : AV} (n : notNone x = true) : CmpOk G A .IsNot x .none true := fun Z s E v1 v2 _ _ h1 h2 => by
  cases h2.noneInv
  exact isnot_none_ne (notNone_ne h1 n) ⟨rfl, keeps_refl s⟩
theorem cmp_isNoneRef {a : Addr} : CmpOk G A .Is (.val (.ref a)) .none false := fun Z s E v1 v2 _ _ h1 h2 => by
  cases h2.noneInv; cases h1.valInv
  exact is_none_ne (by intro e; cases e) ⟨rfl, keeps_refl s⟩
theorem cmp_noneIs : CmpOk G A .Is .none .none true := fun Z s E v1 v2 _ _ h1 h2 => by
  cases h1.noneInv; cases h2.noneInv
  exact wpAny_is_self (by rfl) ⟨rfl, keeps_refl s⟩
theorem cmp_noneIsnt : CmpOk G A .IsNot .none .none false := fun Z s E v1 v2 _ _ h1 h2 => by
  cases h1.noneInv; cases h2.noneInv
  exact wpAny_isNot_self (by rfl) ⟨rfl, keeps_refl s⟩
theorem cmp_isBool {b c : Bool} : CmpOk G A .Is (.bool b) (.bool c) (b == c) := fun Z s E v1 v2 _ _ h1 h2 => by
  cases h1.boolInv; cases h2.boolInv
  exact wpAny_is_plain (by rfl) ⟨by cases b <;> cases c <;> rfl, keeps_refl s⟩
theorem cmp_isntBool {b c : Bool} : CmpOk G A .IsNot (.bool b) (.bool c) (!(b == c)) := fun Z s E v1 v2 _ _ h1 h2 => by
  cases h1.boolInv; cases h2.boolInv
  exact wpAny_isNot_plain (by rfl) ⟨by cases b <;> cases c <;> rfl, keeps_refl s⟩

/-! tests -/
theorem PT_not {e : Expr} {pos : Pos} {b : Bool} (h : PT G A env ρ e b) : PT G A env ρ (.UnaryOp .Not e pos) (!b) := fun Z s E z0 i f =>
  isTrue_not (h.seq z0 i f fun _ _ _ k1 g1 r1 _ _ => (PPost.same g1.inn (keeps_refl _) (by rw [r1])).trans k1 g1)
theorem PT_and {x : Expr} {rest : List Expr} {pos : Pos} {b c : Bool} (h : PT G A env ρ x b) (k : b = true → PT G A env ρ (.BoolOp .And rest pos) c) : PT G A env ρ (.BoolOp .And (x :: rest) pos) (b && c) := fun Z s E z0 i f =>
  isTrue_and (h.seq z0 i f fun v s1 _ k1 g1 r1 z1 f1 => by
    subst r1
    cases v with
    | false => exact (PPost.same (R := fun _ v => v = (false && c)) g1.inn (keeps_refl _) rfl).trans k1 g1
    | true => exact (k rfl).seq z1 g1.inn f1 fun _ _ _ k2 g2 r2 _ _ => ((PPost.same g2.inn (keeps_refl _) (by rw [r2]; rfl)).trans k2 g2).trans k1 g1)
theorem PT_andN {pos : Pos} : PT G A env ρ (.BoolOp .And [] pos) true := fun Z s E z0 i f => isTrue_and_nil (PPost.same i (keeps_refl s) rfl)
theorem PT_or {x : Expr} {rest : List Expr} {pos : Pos} {b c : Bool} (h : PT G A env ρ x b) (k : b = false → PT G A env ρ (.BoolOp .Or rest pos) c) : PT G A env ρ (.BoolOp .Or (x :: rest) pos) (b || c) := fun Z s E z0 i f =>
  isTrue_or (h.seq z0 i f fun v s1 _ k1 g1 r1 z1 f1 => by
    subst r1
    cases v with
    | true => exact (PPost.same (R := fun _ v => v = (true || c)) g1.inn (keeps_refl _) rfl).trans k1 g1
    | false => exact (k rfl).seq z1 g1.inn f1 fun _ _ _ k2 g2 r2 _ _ => ((PPost.same g2.inn (keeps_refl _) (by rw [r2]; rfl)).trans k2 g2).trans k1 g1)
theorem PT_orN {pos : Pos} : PT G A env ρ (.BoolOp .Or [] pos) false := fun Z s E z0 i f => isTrue_or_nil (PPost.same i (keeps_refl s) rfl)
theorem PT_plain {e : Expr} {b : Bool} (h : PE G A env ρ e (.bool b)) (he : ∀ whole, isTrue e env whole = (do let v ← whole; standAt e.pos; holding [v] (truthy v)) := by intro _; rfl) : PT G A env ρ e b := fun Z s E z0 i f =>
  isTrue_plain (h.seq z0 i f fun _ _ _ k1 g1 r1 _ _ => by
    cases r1.boolInv
    exact wpAny_truthy_bool ((PPost.same (R := fun _ v => v = b) g1.inn (keeps_refl _) rfl).trans k1 g1)) (he _)

/-! globals -/
def PNs (Z : PH) (a : Addr) (m : Str → Option Value) : Prop := ∃ o es ep, Z a = some o ∧ o.data = .dict es ep ∧ StrKeys es ∧ ∀ name, nsFind es name = m name
theorem PNs.at {Z : PH} {a : Addr} {m : Str → Option Value} {h : Heap} (x : PNs Z a m) (i : PIn Z h) : h.Ns a m := let ⟨o, es, ep, e, r⟩ := x; ⟨o, es, ep, i _ _ e, r⟩
theorem PNs.mono {Z Z' : PH} {a : Addr} {m : Str → Option Value} (x : PNs Z a m) (k : PSub Z Z') : PNs Z' a m := let ⟨o, es, ep, e, r⟩ := x; ⟨o, es, ep, k _ _ e, r⟩
/-- what a global name gives -/
def Glb (G : Gl) (x : Str) (v : Value) : Prop := ∃ mg, PNs G.Z0 mainGlobals mg ∧ (mg x = some v ∨ (mg x = none ∧ ∃ mb, PNs G.Z0 builtinsNs mb ∧ mb x = some v))
theorem PE_glob {x : Str} {v : Value} {pos : Pos} (hg : Glb G x v) (hx : env.kindOf x = some .globalImplicit) (hd : (x == ("__debug__" : Str)) = false := by decide) : PE G A env ρ (.Name x pos) (.val v) := fun Z s E z0 i f => by
  obtain ⟨mg, n1, h⟩ := hg
  have fin : PPost Z s (fun Z v' => VR Z (.val v) v') v s := PPost.same i (keeps_refl s) .val
  rcases h with h | ⟨h, mb, n2, h2⟩
  · exact PySem.Calls.Name_function_global f.kind hx (PySem.Calls.loadGlobal_global (by rw [f.gl]; exact (n1.mono z0.sub).at i) h fin) hd
  · exact PySem.Calls.Name_function_global f.kind hx (PySem.Calls.loadGlobal_builtin (by rw [f.gl]; exact (n1.mono z0.sub).at i) h (by rw [f.bi]; exact (n2.mono z0.sub).at i) h2 fin) hd

/-! arguments -/
def PS (G : Gl) (A : Around) (env : Env) (ρ : Vars) (es : List Expr) (xs : List AV) : Prop := ∀ pos, PW G A env ρ (spliced (backTo pos (starEach es env))) fun Z vs => VRs Z xs vs
theorem PS_nil : PS G A env ρ [] [] := fun _ Z s E _ i _ => args_nil (PPost.same i (keeps_refl s) .nil)
theorem PS_cons {e : Expr} {es : List Expr} {x : AV} {xs : List AV} (h : PE G A env ρ e x) (k : PS G A env ρ es xs) (he : starEach (e :: es) env = (false, eval e env) :: starEach es env := by rfl) : PS G A env ρ (e :: es) (x :: xs) :=
  fun pos Z s E z0 i f => args_cons (h.seq z0 i f fun _ _ _ k1 g1 r1 z1 f1 => (k pos).seq z1 g1.inn f1 fun _ _ _ k2 g2 r2 _ _ => ((PPost.same g2.inn (keeps_refl _) (.cons (r1.mono g2.sub) r2)).trans k2 g2).trans k1 g1) he
end
end PL

namespace PL
section
variable {α β : Type} {G : Gl} {A : Around} {env : Env} {ρ : Vars}

/-- a call of a value with values: pure -/
def COk (G : Gl) (A : Around) (f : Value) (xs : List AV) (R : PH → Value → Prop) : Prop :=
  ∀ (Z : PH) (s : Shared) (E : Value → Shared → Prop) (vs : List Value), Bs G Z s → PIn Z s.heap → VRs Z xs vs → wpAny (model G.prog G.w) A (call f vs) (PPost Z s R) E s

theorem eval_callN {f : Str} {p pos : Pos} {es : List Expr} : eval (.Call (.Name f p) es [] pos) env = (do callWith pos (← eval (.Name f p) env) [] (backTo pos (starEach es env)) (backToKw pos (keywordEach [] env))) := rfl

/-- call of a builtin function -/
theorem PW_callB {f : Str} {p pos : Pos} {id : String} {e : Expr} {es : List Expr} {xs : List AV} {R : PH → Value → Prop} (hf : PE G A env ρ (.Name f p) (.val (.builtin id))) (ha : PS G A env ρ (e :: es) xs)
    (hc : COk G A (.builtin id) xs R) (he : starEach (e :: es) env = (false, eval e env) :: starEach es env := by rfl) (hp : (backTo pos (starEach es env)).any (·.1) = false := by rfl) :
    PW G A env ρ (eval (.Call (.Name f p) (e :: es) [] pos) env) R := fun Z s E z0 i f =>
  Call_ (hf.seq z0 i f fun v s1 Z1 k1 g1 r1 z1 f1 => by
    cases r1.valInv
    refine callWith_builtin1 ((ha pos).seq z1 g1.inn f1 fun vs s2 Z2 k2 g2 r2 z2 f2 => ?_) he hp
    exact wpAny_mono (hc Z2 s2 E vs z2 g2.inn r2) (fun _ _ p => (p.trans k2 g2).trans k1 g1) fun _ _ e => e)
/-- call of range -/
theorem PW_callT {f : Str} {p pos : Pos} {T : String} {e : Expr} {es : List Expr} {xs : List AV} {R : PH → Value → Prop} (hf : PE G A env ρ (.Name f p) (.val (.type T))) (ha : PS G A env ρ (e :: es) xs)
    (hc : COk G A (.type T) xs R) (he : starEach (e :: es) env = (false, eval e env) :: starEach es env := by rfl) (hp : (backTo pos (starEach es env)).any (·.1) = false := by rfl) :
    PW G A env ρ (eval (.Call (.Name f p) (e :: es) [] pos) env) R := fun Z s E z0 i f =>
  Call_ (hf.seq z0 i f fun v s1 Z1 k1 g1 r1 z1 f1 => by
    cases r1.valInv
    refine callWith_type1 ((ha pos).seq z1 g1.inn f1 fun vs s2 Z2 k2 g2 r2 z2 f2 => ?_) he hp
    exact wpAny_mono (hc Z2 s2 E vs z2 g2.inn r2) (fun _ _ p => (p.trans k2 g2).trans k1 g1) fun _ _ e => e)
def FnObj (G : Gl) (a : Addr) : Prop := ∃ o fd, G.Z0 a = some o ∧ o.data = .func fd
/-- call of a def of the text -/
theorem PW_callF {f : Str} {p pos : Pos} {a : Addr} {e : Expr} {es : List Expr} {xs : List AV} {R : PH → Value → Prop} (hf : PE G A env ρ (.Name f p) (.val (.ref a))) (ho : FnObj G a) (ha : PS G A env ρ (e :: es) xs)
    (hc : COk G A (.ref a) xs R) (he : starEach (e :: es) env = (false, eval e env) :: starEach es env := by rfl) :
    PW G A env ρ (eval (.Call (.Name f p) (e :: es) [] pos) env) R := fun Z s E z0 i f =>
  Call_ (hf.seq z0 i f fun v s1 Z1 k1 g1 r1 z1 f1 => by
    cases r1.valInv
    obtain ⟨o, fd, e1, e2⟩ := ho
    refine callWith_def (o := o) (fd := fd) e2 ((ha pos).seq z1 g1.inn f1 fun vs s2 Z2 k2 g2 r2 z2 f2 => ⟨g2.inn _ _ (z2.sub _ _ e1), ?_⟩) he
    exact wpAny_mono (hc Z2 s2 E vs z2 g2.inn r2) (fun _ _ p => (p.trans k2 g2).trans k1 g1) fun _ _ e => e)

/-! builtins -/
theorem PIn.isList {Z : PH} {h : Heap} (i : PIn Z h) {a : Addr} {vs : Array Value} {n : Nat} (e : Z a = some (listO vs n)) : h.IsList a vs := ⟨_, i _ _ e, rfl, n, rfl⟩
theorem c_lenS {x : Str} (b : x.length ≤ 1000000) : COk G A (.builtin "len") [.str x] fun Z v => VR Z (.int x.length) v := fun Z s E vs _ i h => by
  cases h with | cons h h' => cases h'; obtain ⟨t, rfl⟩ := h.strInv; exact len_str (by omega) (PPost.same i (keeps_tok s _) .int)
theorem c_lenL {xs : List AV} (b : xs.length ≤ 1000000) : COk G A (.builtin "len") [.list xs] fun Z v => VR Z (.int xs.length) v := fun Z s E vs _ i h => by
  cases h with
  | cons h h' =>
    cases h'; obtain ⟨a, vs, n, rfl, e, r⟩ := h.listInv
    have hl := r.length
    rw [Array.length_toList] at hl
    exact PySem.Calls.call_len_list (i.isList e) (by omega) (PPost.same i (keeps_tok s _) (by rw [hl]; exact .int))
theorem c_lenI {ns : List Int} (b : ns.length ≤ 1000000) : COk G A (.builtin "len") [.ilist ns] fun Z v => VR Z (.int ns.length) v := fun Z s E vs _ i h => by
  cases h with
  | cons h h' =>
    cases h'
    cases h with
    | ilist e c d r =>
      have hl := r.length
      rw [Array.length_toList] at hl
      exact PySem.Calls.call_len_list ⟨_, i _ _ e, c, _, d⟩ (by omega) (PPost.same i (keeps_tok s _) (by rw [hl]; exact .int))
theorem c_range1 {x : Int} : COk G A (.type "range") [.int x] fun Z v => VR Z (.rng 0 x 1) v := fun Z s E vs _ i h => by
  cases h with
  | cons h h' =>
    cases h'; obtain ⟨t, rfl⟩ := h.intInv
    have k : ∀ b o, s.heap.get? b = some o → (s.heap.push { cls := .type "range", data := .fields #[.int 0 s.toks, .int x t, .int 1 (s.toks + 1)] }).get? b = some o := fun _ _ e => Heap.get?_push_of_some _ e
    exact call_range_1 ⟨keeps_of k, _, Zp.grow i k (IsRange.new ..) (none_ge (Nat.le_refl _)), .rng Zp.self⟩
theorem c_range2 {x y : Int} : COk G A (.type "range") [.int x, .int y] fun Z v => VR Z (.rng x y 1) v := fun Z s E vs _ i h => by
  cases h with
  | cons h h' =>
    cases h' with
    | cons h2 h' =>
      cases h'; obtain ⟨t, rfl⟩ := h.intInv; obtain ⟨u, rfl⟩ := h2.intInv
      have k : ∀ b o, s.heap.get? b = some o → (s.heap.push { cls := .type "range", data := .fields #[.int x t, .int y u, .int 1 s.toks] }).get? b = some o := fun _ _ e => Heap.get?_push_of_some _ e
      exact call_range_2 ⟨keeps_of k, _, Zp.grow i k (IsRange.new ..) (none_ge (Nat.le_refl _)), .rng Zp.self⟩
theorem c_range3 {x y z : Int} (hz : z ≠ 0) (b : z.natAbs < 1073741824) : COk G A (.type "range") [.int x, .int y, .int z] fun Z v => VR Z (.rng x y z) v := fun Z s E vs _ i h => by
  cases h with
  | cons h h' =>
    cases h' with
    | cons h2 h' =>
      cases h' with
      | cons h3 h' =>
        cases h'; obtain ⟨t, rfl⟩ := h.intInv; obtain ⟨u, rfl⟩ := h2.intInv; obtain ⟨v, rfl⟩ := h3.intInv
        have k : ∀ b o, s.heap.get? b = some o → (s.heap.push { cls := .type "range", data := .fields #[.int x t, .int y u, .int z v] }).get? b = some o := fun _ _ e => Heap.get?_push_of_some _ e
        exact call_range_3 hz ⟨keeps_of k, _, Zp.grow i k (IsRange.new ..) (none_ge (Nat.le_refl _)), .rng Zp.self⟩ (.inl (PyProof.noPylong_small b))
theorem c_max {x y : Int} (hh : A.handled = none) : COk G A (.builtin "max") [.int x, .int y] fun Z v => VR Z (.int (max x y)) v := fun Z s E vs _ i h => by
  cases h with
  | cons h h' =>
    cases h' with
    | cons h2 h' =>
      cases h'; obtain ⟨t, rfl⟩ := h.intInv; obtain ⟨u, rfl⟩ := h2.intInv
      refine max_two_ints hh fun h' tk k => PPost.same i (keeps_of k) ?_
      by_cases q : y > x
      · rw [if_pos q, Int.max_eq_right (by omega)]; exact .int
      · rw [if_neg q, Int.max_eq_left (by omega)]; exact .int
theorem c_min {x y : Int} (hh : A.handled = none) : COk G A (.builtin "min") [.int x, .int y] fun Z v => VR Z (.int (min x y)) v := fun Z s E vs _ i h => by
  cases h with
  | cons h h' =>
    cases h' with
    | cons h2 h' =>
      cases h'; obtain ⟨t, rfl⟩ := h.intInv; obtain ⟨u, rfl⟩ := h2.intInv
      refine min_two_ints hh fun h' tk k => PPost.same i (keeps_of k) ?_
      by_cases q : y < x
      · rw [if_pos q, Int.min_eq_right (by omega)]; exact .int
      · rw [if_neg q, Int.min_eq_left (by omega)]; exact .int

/-! subscripts -/
theorem PE_itemL {e ie : Expr} {pos : Pos} {xs : List AV} {x : AV} {k : Int} (h : PE G A env ρ e (.list xs)) (hi : PE G A env ρ ie (.int k)) (h0 : 0 ≤ k) (h1 : k < 2 ^ 63) (hx : xs[k.toNat]? = some x)
    (hs : ∀ l u, subscripted ie false (.ref l) (.int k u) = operate [.ref l, .int k u] (getItem (.ref l) (.int k u)) := by intro _ _; with_unfolding_all rfl) : PE G A env ρ (.Subscript e ie pos) x := fun Z s E z0 i f =>
  Subscript_ (h.seq z0 i f fun v s1 Z1 k1 g1 r1 z1 f1 => hi.seq z1 g1.inn f1 fun v2 s2 Z2 k2 g2 r2 z2 f2 => by
    obtain ⟨a, vs, n, rfl, e, r⟩ := r1.listInv
    obtain ⟨u, rfl⟩ := r2.intInv
    have e2 := g2.sub _ _ e
    have hl := g2.inn.isList e2
    have hlt : k.toNat < vs.size := by
      have := r.length
      rw [Array.length_toList] at this
      rw [this]
      exact (List.getElem?_eq_some_iff.mp hx).1
    have hv : vs[k.toNat]? = some vs[k.toNat] := by simp [hlt]
    refine tail_any hl.typeIs slot_list_getitem.lookup (wpAny_getItem_list (x := vs[k.toNat]) hl h0 h1 hv ?_) (hs _ _)
    exact ((PPost.same g2.inn (keeps_refl _) ((r.get _ _ _ hx (by simpa using hv)).mono g2.sub)).trans k2 g2).trans k1 g1)
theorem PE_itemI {e ie : Expr} {pos : Pos} {ns : List Int} {x : Int} {k : Int} (h : PE G A env ρ e (.ilist ns)) (hi : PE G A env ρ ie (.int k)) (h0 : 0 ≤ k) (h1 : k < 2 ^ 63) (hx : ns[k.toNat]? = some x)
    (hs : ∀ l u, subscripted ie false (.ref l) (.int k u) = operate [.ref l, .int k u] (getItem (.ref l) (.int k u)) := by intro _ _; with_unfolding_all rfl) : PE G A env ρ (.Subscript e ie pos) (.int x) := fun Z s E z0 i f =>
  Subscript_ (h.seq z0 i f fun v s1 Z1 k1 g1 r1 z1 f1 => hi.seq z1 g1.inn f1 fun v2 s2 Z2 k2 g2 r2 z2 f2 => by
    cases r1 with
    | ilist e c d r =>
      obtain ⟨u, rfl⟩ := r2.intInv
      have hl : s2.heap.IsList _ _ := ⟨_, g2.inn _ _ (g2.sub _ _ e), c, _, d⟩
      obtain ⟨t, ht⟩ := r.get k.toNat x hx
      refine tail_any hl.typeIs slot_list_getitem.lookup (wpAny_getItem_list hl h0 h1 (by simpa using ht) ?_) (hs _ _)
      exact ((PPost.same g2.inn (keeps_refl _) .int).trans k2 g2).trans k1 g1)
theorem PE_itemLneg {e ie : Expr} {pos : Pos} {xs : List AV} {x : AV} {k : Int} (h : PE G A env ρ e (.list xs)) (hi : PE G A env ρ ie (.int k)) (h0 : k < 0) (h1 : -(xs.length : Int) ≤ k) (h2 : -(2 ^ 63) ≤ k) (hx : xs[(k + xs.length).toNat]? = some x)
    (hs : ∀ l u, subscripted ie false (.ref l) (.int k u) = operate [.ref l, .int k u] (getItem (.ref l) (.int k u)) := by intro _ _; with_unfolding_all rfl) : PE G A env ρ (.Subscript e ie pos) x := fun Z s E z0 i f =>
  Subscript_ (h.seq z0 i f fun v s1 Z1 k1 g1 r1 z1 f1 => hi.seq z1 g1.inn f1 fun v2 s2 Z2 k2 g2 r2 z2 f2 => by
    obtain ⟨a, vs, n, rfl, e, r⟩ := r1.listInv
    obtain ⟨u, rfl⟩ := r2.intInv
    have e2 := g2.sub _ _ e
    have hl := g2.inn.isList e2
    have hsz : vs.size = xs.length := by have := r.length; rwa [Array.length_toList] at this
    have hlt : (k + vs.size).toNat < vs.size := by omega
    have hv : vs[(k + vs.size).toNat]? = some vs[(k + vs.size).toNat] := by simp [hlt]
    refine tail_any hl.typeIs slot_list_getitem.lookup (wpAny_getItem_list_neg (x := vs[(k + vs.size).toNat]) hl h0 (by rw [hsz]; exact h1) h2 hv ?_) (hs _ _)
    have hx' : xs[(k + vs.size).toNat]? = some x := by rw [hsz]; exact hx
    exact ((PPost.same g2.inn (keeps_refl _) ((r.get _ _ _ hx' (by simpa using hv)).mono g2.sub)).trans k2 g2).trans k1 g1)
theorem seqIndex_ok {k : Int} {n : Nat} (h0 : 0 ≤ k) (h1 : k < n) : seqIndex? k n = some k.toNat := by
  unfold seqIndex?
  simp only [show ¬ k < 0 by omega, if_false]
  rw [if_pos (by simp only [Bool.and_eq_true, decide_eq_true_eq]; omega)]
theorem PE_itemS {e ie : Expr} {pos : Pos} {x : Str} {c : Nat} {k : Int} (h : PE G A env ρ e (.str x)) (hi : PE G A env ρ ie (.int k)) (h0 : 0 ≤ k) (h1 : k < 2 ^ 63) (hx : x.cps[k.toNat]? = some c)
    (hs : ∀ t u, subscripted ie false (.str x t) (.int k u) = operate [.str x t, .int k u] (getItem (.str x t) (.int k u)) := by intro _ _; with_unfolding_all rfl) : PE G A env ρ (.Subscript e ie pos) (.str ⟨#[c]⟩) := fun Z s E z0 i f =>
  Subscript_ (h.seq z0 i f fun v s1 Z1 k1 g1 r1 z1 f1 => hi.seq z1 g1.inn f1 fun v2 s2 Z2 k2 g2 r2 z2 f2 => by
    obtain ⟨t, rfl⟩ := r1.strInv
    obtain ⟨u, rfl⟩ := r2.intInv
    have hlt : k.toNat < x.cps.size := (Array.getElem?_eq_some_iff.mp hx).1
    refine tail_any (typeIs_str _ _ _) slot_str_getitem.lookup (getItem_str (c := c) ?_ ?_ ?_) (hs _ _)
    · simp only [Bool.or_eq_false_iff, decide_eq_false_iff_not]; omega
    · rw [seqIndex_ok h0 (by show k < x.cps.size; omega)]; exact hx
    · exact ((PPost.same g2.inn (keeps_tok _ _) .str).trans k2 g2).trans k1 g1)
end
end PL

namespace PL
section
variable {α β : Type} {G : Gl} {A : Around} {env : Env} {ρ : Vars}

theorem PE_of {e : Expr} {x : AV} (h : PW G A env ρ (eval e env) fun Z v => VR Z x v) : PE G A env ρ e x := h

/-! slices of texts -/
/-- a part of a slice: none or a natural -/
def PPart (G : Gl) (A : Around) (env : Env) (ρ : Vars) (e : Option Expr) (k : Option Nat) : Prop :=
  PW G A env ρ (evalPart e env) fun Z v => match k with | none => v = .none | some n => ∃ t, v = .int (n : Int) t
theorem PPart_none : PPart G A env ρ none none := fun Z s E _ i _ => by
  rw [evalPart_none]; exact wpAny_pure (PPost.same (R := fun _ v => v = Value.none) i (keeps_refl s) rfl)
theorem PPart_some {e : Expr} {k : Int} {n : Nat} (h : PE G A env ρ e (.int k)) (hn : k = (n : Int)) : PPart G A env ρ (some e) (some n) := by
  subst hn
  exact PW.mono h fun Z v r => r.intInv

def partOf (k : Option Nat) (t : Tok) : Option (Int × Tok) := match k with
  | none => none
  | some n => some ((n : Int), t)
theorem part_is {k : Option Nat} {v : Value} (h : match k with | none => v = .none | some n => ∃ t, v = .int (n : Int) t) : ∃ t, v = partValue (partOf k t) := by
  cases k with
  | none => exact ⟨0, h⟩
  | some n => obtain ⟨t, rfl⟩ := h; exact ⟨t, rfl⟩

def cutS (x : Str) (l u : Option Nat) : Str := ⟨((x.cps.toList.take (u.getD x.length)).drop (l.getD 0)).toArray⟩

theorem clip_nat (k n : Nat) : max (0 : Int) (min (if (k : Int) < 0 then (k : Int) + n else k) n) = ((min k n : Nat) : Int) := by
  rw [if_neg (by omega)]; omega
theorem indices_nat (l u : Option Nat) (t t' : Tok) (n : Nat) : Builtin.Str.strSliceIndices ((partOf l t).map (·.1)) ((partOf u t').map (·.1)) 1 n = (List.range (min (u.getD n) n - min (l.getD 0) n)).map fun k => min (l.getD 0) n + k := by
  rw [← sliceRange_one]
  unfold Builtin.Str.strSliceIndices partOf
  cases l <;> cases u <;> simp only [Option.map_none, Option.map_some, Option.getD_none, Option.getD_some, show ((1 : Int) > 0) = True from by simp, if_true, clip_nat, Nat.zero_min, Nat.min_self, Int.natCast_zero]
theorem take_drop_min {α : Type} (x : List α) (a b : Nat) : (x.drop (min a x.length)).take (min b x.length - min a x.length) = (x.take b).drop a := by
  apply List.ext_getElem?
  intro i
  simp only [List.getElem?_take, List.getElem?_drop]
  by_cases h : a < x.length
  · rw [show min a x.length = a from by omega]
    by_cases h2 : a + i < b
    · rw [if_pos h2]
      by_cases h3 : i < min b x.length - a
      · rw [if_pos h3]
      · rw [if_neg h3, List.getElem?_eq_none (by omega)]
    · rw [if_neg h2, if_neg (by omega)]
  · rw [show min a x.length = x.length from by omega, if_neg (by omega)]
    by_cases h2 : a + i < b
    · rw [if_pos h2, List.getElem?_eq_none (by omega)]
    · rw [if_neg h2]
theorem cut_is (x : Str) (l u : Option Nat) (t t' : Tok) : (slicePicked x (partOf l t) (partOf u t') none).filterMap (x.cps[·]?) = (cutS x l u).cps.toList := by
  unfold slicePicked cutS
  simp only [Option.map_none, Option.getD_none]
  rw [indices_nat]
  have h := StrLaws.picks x.cps.toList (min (u.getD x.length) x.length - min (l.getD 0) x.length) (min (l.getD 0) x.length) (by simp only [Str.length, Array.length_toList]; omega)
  simp only [Array.getElem?_toList] at h
  rw [h]
  have e : x.length = x.cps.toList.length := by simp [Str.length]
  rw [e]
  exact take_drop_min _ _ _
theorem cut_val (x : Str) (l u : Option Nat) (t t' : Tok) (h : (slicePicked x (partOf l t) (partOf u t') none).length = x.length) : cutS x l u = x := by
  have hl := congrArg List.length (cut_is x l u t t')
  have h1 : ((slicePicked x (partOf l t) (partOf u t') none).filterMap (x.cps[·]?)).length = x.length := by
    rw [← h]
    unfold slicePicked
    rw [Option.map_none, Option.getD_none, indices_nat]
    have hh := StrLaws.picks x.cps.toList (min (u.getD x.length) x.length - min (l.getD 0) x.length) (min (l.getD 0) x.length) (by simp only [Str.length, Array.length_toList]; omega)
    simp only [Array.getElem?_toList] at hh
    rw [hh]
    simp only [List.length_take, List.length_drop, Array.length_toList, List.length_map, List.length_range, Str.length]
    omega
  rw [h1] at hl
  unfold cutS at hl ⊢
  simp only [List.length_drop, List.length_take, Array.length_toList, Str.length] at hl
  have e : ((x.cps.toList.take (u.getD x.length)).drop (l.getD 0)) = x.cps.toList := by
    by_cases z : x.cps.size = 0
    · have : x.cps.toList = [] := by apply List.eq_nil_of_length_eq_zero; simpa using z
      rw [this]; simp
    · have a1 : l.getD 0 = 0 := by omega
      have a2 : x.cps.size ≤ u.getD x.length := by simp only [Str.length] at hl ⊢; omega
      rw [a1, List.drop_zero, List.take_of_length_le (by simpa using a2)]
  rw [e]

theorem PE_sliceS {e : Expr} {lo hi : Option Expr} {p pos : Pos} {x : Str} {l u : Option Nat} (h : PE G A env ρ e (.str x)) (hl : PPart G A env ρ lo l) (hu : PPart G A env ρ hi u) (b : x.length ≤ 1000000) :
    PE G A env ρ (.Subscript e (.Slice lo hi none p) pos) (.str (cutS x l u)) := fun Z s E z0 i f => by
  refine Subscript_ (h.seq z0 i f fun v s1 Z1 k1 g1 r1 z1 f1 => wpAny_Slice (hl.seq z1 g1.inn f1 fun v2 s2 Z2 k2 g2 r2 z2 f2 => hu.seq z2 g2.inn f2 fun v3 s3 Z3 k3 g3 r3 z3 f3 => ?_))
  rw [evalPart_none]
  refine wpAny_pure ?_
  obtain ⟨t, rfl⟩ := r1.strInv
  obtain ⟨t2, rfl⟩ := part_is r2
  obtain ⟨t3, rfl⟩ := part_is r3
  have kp : ∀ b o, s3.heap.get? b = some o → (s3.heap.push { cls := .type "slice", data := .fields #[partValue (partOf l t2), partValue (partOf u t3), .none] }).get? b = some o := fun _ _ e => Heap.get?_push_of_some _ e
  refine tail_any (typeIs_str _ _ _) slot_str_getitem.lookup (wpAny_getItem_str_slice (l := partOf l t2) (u := partOf u t3) (st := none) ⟨_, Heap.get?_push_size _ rfl, rfl, rfl⟩ rfl ?_) rfl
  have fin : ∀ tk tt, PPost Z s (fun Z v => VR Z (.str (cutS x l u)) v) (.str (cutS x l u) tt) ⟨s3.heap.push { cls := .type "slice", data := .fields #[partValue (partOf l t2), partValue (partOf u t3), .none] }, s3.gens, s3.drawn, tk, s3.os⟩ := fun tk tt =>
    ((((PPost.same g3.inn (keeps_of (s := s3) kp) .str).trans k3 g3).trans k2 g2).trans k1 g1)
  unfold sliceMade
  split
  · rename_i q
    have e : cutS x l u = x := cut_val x l u t2 t3 (by simpa using q)
    show PPost _ _ _ _ _
    have := fin s3.toks t
    rw [e] at this
    rw [e]
    exact this
  · have e : (⟨((slicePicked x (partOf l t2) (partOf u t3) none).filterMap (x.cps[·]?)).toArray⟩ : Str) = cutS x l u := by rw [cut_is]
    rw [e]
    refine ⟨?_, fin _ _⟩
    show (cutS x l u).cps.size ≤ sizeLine
    unfold cutS
    simp only [List.size_toArray, List.length_drop, List.length_take, Array.length_toList]
    rw [sizeLine_eq]
    simp only [Str.length] at b ⊢
    omega
end
end PL

namespace PL
section
variable {α β : Type} {G : Gl} {A : Around} {env : Env} {ρ : Vars}

/-! displays -/
theorem PE_tup {es : List Expr} {k : Nat} {pos : Pos} {xs : List AV} (h : PS G A env ρ es xs) (b : xs.length ≤ 1000000) : PE G A env ρ (.Tuple es k pos) (.tup xs) := fun Z s E z0 i f =>
  wpAny_Tuple ((h pos).seq z0 i f fun vs s1 Z1 k1 g1 r1 z1 f1 => ⟨by rw [r1.length, sizeLine_eq]; omega, by
    have kp : ∀ b o, s1.heap.get? b = some o → (s1.heap.push (tupO vs.toArray 0)).get? b = some o := fun _ _ e => Heap.get?_push_of_some _ e
    have gr : Grow Z1 (Zp Z1 s1.heap.objs.size (tupO vs.toArray 0)) s1.heap (s1.heap.push (tupO vs.toArray 0)) := Zp.grow g1.inn kp (Heap.get?_push_size _ rfl) (none_ge (Nat.le_refl _))
    exact PPost.trans (R := fun Z v => VR Z (.tup xs) v) k1 g1 ⟨keeps_heap kp, _, gr, VR.tup' (vs := vs) Zp.self (r1.mono gr.sub)⟩⟩)
theorem PE_lst {es : List Expr} {pos : Pos} {xs : List AV} (h : PS G A env ρ es xs) (b : xs.length ≤ 1000000) : PE G A env ρ (.List es pos) (.list xs) := fun Z s E z0 i f =>
  wpAny_List ((h pos).seq z0 i f fun vs s1 Z1 k1 g1 r1 z1 f1 => ⟨by rw [r1.length, sizeLine_eq]; omega, by
    have kp : ∀ b o, s1.heap.get? b = some o → (s1.heap.push (listO vs.toArray 0)).get? b = some o := fun _ _ e => Heap.get?_push_of_some _ e
    have gr : Grow Z1 (Zp Z1 s1.heap.objs.size (listO vs.toArray 0)) s1.heap (s1.heap.push (listO vs.toArray 0)) := Zp.grow g1.inn kp (Heap.get?_push_size _ rfl) (none_ge (Nat.le_refl _))
    exact PPost.trans (R := fun Z v => VR Z (.list xs) v) k1 g1 ⟨keeps_heap kp, _, gr, VR.list' (vs := vs) Zp.self (r1.mono gr.sub)⟩⟩)

/-! methods of builtin types -/
def MethOk (G : Gl) (A : Around) (x : AV) (name : Str) (id : String) : Prop :=
  ∀ (Z : PH) (s : Shared) (E : Value → Shared → Prop) (v : Value) (pl : Sem Bool) (Q : Value × List Value → Shared → Prop), PIn Z s.heap → VR Z x v → Q (.builtin id, [v]) s → wpAny (model G.prog G.w) A (getMethod v name pl) Q E s
theorem PW_meth {o : Expr} {name : Str} {id : String} {apos pos : Pos} {e : Expr} {es : List Expr} {x : AV} {ys : List AV} {pl : Sem Bool} {R : PH → Value → Prop} (ho : PE G A env ρ o x) (hm : MethOk G A x name id) (ha : PS G A env ρ (e :: es) ys)
    (hc : COk G A (.builtin id) (x :: ys) R) (hs : starEach (e :: es) env = (false, eval e env) :: starEach es env := by rfl) (hp : (backTo pos (starEach es env)).any (·.1) = false := by rfl)
    (he : eval (.Call (.Attribute o name apos) (e :: es) [] pos) env = (do
      let ov ← eval o env
      standAt apos.atName
      let (f, first) ← holding [ov] (getMethod ov name pl)
      callWith pos f first (backTo pos (starEach (e :: es) env)) []) := by rfl) : PW G A env ρ (eval (.Call (.Attribute o name apos) (e :: es) [] pos) env) R := fun Z s E z0 i f =>
  MethodCall_ (ho.seq z0 i f fun v s1 Z1 k1 g1 r1 z1 f1 => hm Z1 s1 E v pl _ g1.inn r1 (callWith_method1 ((ha pos).seq z1 g1.inn f1 fun vs s2 Z2 k2 g2 r2 z2 f2 =>
    wpAny_mono (hc Z2 s2 E (v :: vs) z2 g2.inn (.cons (r1.mono g2.sub) r2)) (fun _ _ p => (p.trans k2 g2).trans k1 g1) fun _ _ e => e) hs hp)) he

theorem m_sindex {x : Str} : MethOk G A (.str x) "index" "str.index" := fun Z s E v pl Q i h hq => by obtain ⟨t, rfl⟩ := h.strInv; exact GM.index hq
theorem m_join {x : Str} : MethOk G A (.str x) "join" "str.join" := fun Z s E v pl Q i h hq => by obtain ⟨t, rfl⟩ := h.strInv; exact GM.join hq
theorem m_lindex {xs : List AV} : MethOk G A (.list xs) "index" "list.index" := fun Z s E v pl Q i h hq => by
  obtain ⟨a, vs, n, rfl, e, _⟩ := h.listInv
  exact getMethod_builtin (i.isList e).typeIs PySem.F.plainAttrs_list PySem.F.slot_list_index PySem.F.type_list_index (fun a' e' => by cases e'; exact ⟨_, i _ _ e, rfl⟩) hq

theorem c_sindex {x y : Str} {k : Nat} {rest : List Nat} (ho : Builtin.Str.occurrences x y 0 x.length 1 = k :: rest) : COk G A (.builtin "str.index") [.str x, .str y] fun Z v => VR Z (.int k) v := fun Z s E vs _ i h => by
  cases h with
  | cons h h' =>
    cases h' with
    | cons h2 h' =>
      cases h'; obtain ⟨t, rfl⟩ := h.strInv; obtain ⟨u, rfl⟩ := h2.strInv
      exact SC.index ho (PPost.same i (keeps_tok s _) .int)

def aInts (ns : List Int) : AV := .list (ns.map .int)
theorem VRs.intsInv {Z : PH} : ∀ {ns : List Int} {vs : List Value}, VRs Z (ns.map .int) vs → IntsAre vs ns
  | [], _, h => by cases h; exact .nil
  | n :: ns, _, h => by
    cases h with
    | cons h h' => obtain ⟨t, rfl⟩ := h.intInv; exact .cons _ _ (VRs.intsInv h')
theorem IntsAre.vrs {Z : PH} {ns : List Int} {vs : List Value} (h : IntsAre vs ns) : VRs Z (ns.map .int) vs := by
  induction h with
  | nil => exact .nil
  | cons n t _ ih => exact .cons .int ih

theorem eqGives_isInt (k : Int) (t : Tok) {vs : List Value} {ns : List Int} (h : IntsAre vs ns) : ∀ y, y ∈ vs → EqGives y (.int k t) (match y with | .int a _ => a == k | _ => false) := by
  induction h with
  | nil => intro y hy; cases hy
  | cons n u _ ih =>
    intro y hy
    rcases List.mem_cons.mp hy with rfl | hy
    · exact EqGives.int n k u t
    · exact ih y hy

theorem c_lindex {ns : List Int} {k : Int} (hk : k ∈ ns) (b : ns.length ≤ 1000000) : COk G A (.builtin "list.index") [aInts ns, .int k] fun Z v => VR Z (.int (ns.idxOf k : Nat)) v := fun Z s E vs _ i h => by
  cases h with
  | cons h h' =>
    cases h' with
    | cons h2 h' =>
      cases h'; obtain ⟨a, vs, n, rfl, e, r⟩ := h.listInv; obtain ⟨u, rfl⟩ := h2.intInv
      have hi := r.intsInv
      have hlen := hi.length
      have hj : ns.idxOf k < ns.length := List.idxOf_lt_length_iff.mpr hk
      rw [Array.length_toList] at hlen
      have at' : ∀ j (hj : j < vs.size), ∃ t, vs[j] = .int (ns[j]'(by omega)) t := fun j hj => by
        obtain ⟨t, ht⟩ := hi.get j (ns[j]'(by omega)) (by first | (simp; done) | (simp; omega))
        refine ⟨t, ?_⟩
        have : vs[j]? = some (.int (ns[j]'(by omega)) t) := by simpa using ht
        exact (Array.getElem?_eq_some_iff.mp this).2
      refine call_meets PySem.F.slot_list_index ⟨_, i _ _ e, rfl⟩ PySem.F.entry_list_index (PySem.F.args_list_index_2 _ _)
        (list_index a vs n (.int k u) (fun y => match y with | .int a _ => a == k | _ => false) (fun y hy => eqGives_isInt k u hi y (by simpa using hy)) (ns.idxOf k) (by omega) (by omega) ?_ ?_) ⟨i _ _ e, PPost.same i (keeps_tok s _) .int⟩
      · obtain ⟨t, ht⟩ := at' (ns.idxOf k) (by omega)
        rw [ht]
        simpa using List.getElem_idxOf hj
      · intro m hm hlt
        obtain ⟨t, ht⟩ := at' m hm
        rw [ht]
        exact ne_of_lt_idxOf hlt _

def aStrs (xs : List Str) : AV := .list (xs.map .str)
theorem VRs.strsInv {Z : PH} : ∀ {xs : List Str} {vs : List Value}, VRs Z (xs.map .str) vs → ∃ l : List (Str × Tok), vs = strValues l ∧ l.map (·.1) = xs
  | [], _, h => by cases h; exact ⟨[], rfl, rfl⟩
  | x :: xs, _, h => by
    cases h with
    | cons h h' =>
      obtain ⟨t, rfl⟩ := h.strInv
      obtain ⟨l, rfl, rfl⟩ := VRs.strsInv h'
      exact ⟨(x, t) :: l, rfl, rfl⟩
theorem c_join {x : Str} {xs : List Str} (b : JoinOk x xs = true) : COk G A (.builtin "str.join") [.str x, aStrs xs] fun Z v => VR Z (.str (Txt.join x xs)) v := fun Z s E vs _ i h => by
  cases h with
  | cons h h' =>
    cases h' with
    | cons h2 h' =>
      cases h'; obtain ⟨t, rfl⟩ := h.strInv; obtain ⟨a, vs, n, rfl, e, r⟩ := h2.listInv
      obtain ⟨l, hl, hx⟩ := r.strsInv
      have : vs = (strValues l).toArray := by rw [← hl, Array.toArray_toList]
      subst this
      exact SC.join (i.isList e) hx b fun t' k => PPost.same i (keeps_tok s _) .str

/-! sources of loops -/
theorem let_plain {t : Expr} {it v : Value} (h : ∀ a, v ≠ .ref a) : letOwnedTupleGo t it v = pure () := by
  unfold letOwnedTupleGo
  split
  · split
    · rename_i e; exact absurd (Prod.mk.inj e).2 (h _)
    · rfl
  · split
    · rename_i e; exact absurd (Prod.mk.inj e).2 (h _)
    · rfl
  · rfl
theorem let_list {t : Expr} {I l : Addr} {i : Nat} {v : Value} {s : Shared} {E : Value → Shared → Prop} {Q : Unit → Shared → Prop} (hit : s.heap.IsListIter I l i) (hQ : Q () s) : wpAny (model G.prog G.w) A (letOwnedTupleGo t (.ref I) v) Q E s := by
  cases v with
  | ref T =>
    unfold letOwnedTupleGo
    split
    · exact wpAny_letOwnedTupleGo_listiter (elts := []) (x1 := 0) (pos := ⟨0, 0, 0, 0⟩) hit hQ
    · exact wpAny_letOwnedTupleGo_listiter (elts := []) (x1 := 0) (pos := ⟨0, 0, 0, 0⟩) hit hQ
    · exact wpAny_pure hQ
  | _ => rw [let_plain (by intro a e; cases e)]; exact wpAny_pure hQ
def IterOk (G : Gl) (A : Around) (src : AV) (items : List AV) : Prop :=
  ∀ (Z : PH) (s : Shared) (E : Value → Shared → Prop) (v : Value) (Q : Value → Shared → Prop), PIn Z s.heap → VR Z src v →
    (∀ (o : Obj) (fp : List Addr) (P : Nat → Value → Prop) (St : Nat → Heap → Prop), Walks G.prog G.w A s.heap.objs.size fp [s.heap.objs.size] items.length P St → (∀ b ∈ fp, b ≤ s.heap.objs.size) → (∀ b ∈ fp, b ≠ s.heap.objs.size → Z b ≠ none) →
      St 0 (s.heap.push o) → (∀ i h, St i h → ∃ o, h.get? s.heap.objs.size = some o ∧ ∀ v, o.data ≠ .cell v) → (∀ (i : Nat) (t : Expr) (v : Value) (s' : Shared) (E' : Value → Shared → Prop) (Q' : Unit → Shared → Prop), P i v → St (i + 1) s'.heap → Q' () s' → wpAny (model G.prog G.w) A (letOwnedTupleGo t (.ref s.heap.objs.size) v) Q' E' s') → (∀ i v, P i v → ∃ it, items[i]? = some it ∧ VR Z it v) → Q (.ref s.heap.objs.size) { s with heap := s.heap.push o }) →
    wpAny (model G.prog G.w) A (pyIter v) Q E s

theorem iter_list {xs : List AV} (hh : A.handled = none) : IterOk G A (.list xs) xs := fun Z s E v Q i h hq => by
  obtain ⟨a, vs, n, rfl, e, r⟩ := h.listInv
  have hl := i.isList e
  have hlt : a < s.heap.objs.size := Heap.lt_size (i _ _ e)
  refine wpAny_pyIter_list hl (hq _ [s.heap.objs.size, a] (fun i v => vs[i]? = some v) (fun i h => h.IsListIter s.heap.objs.size a i ∧ h.IsList a vs) ?_ ?_ ?_ ⟨⟨_, Heap.get?_push_size _ rfl, rfl, rfl⟩, hl.push _⟩ (fun i h st => let ⟨o, e, _, d⟩ := st.1; ⟨o, e, fun v q => by rw [d] at q; cases q⟩) (fun i t v s' E' Q' _ st q => let_list st.1 q) ?_)
  · have hs := r.length
    rw [Array.length_toList] at hs
    rw [← hs]
    exact Walks.list hh _ a (Nat.ne_of_lt hlt) vs
  · intro b hb
    rcases List.mem_cons.mp hb with rfl | hb
    · exact Nat.le_refl _
    · rw [List.mem_singleton.mp hb]; exact Nat.le_of_lt hlt
  · intro b hb hn
    rcases List.mem_cons.mp hb with rfl | hb
    · exact absurd rfl hn
    · rw [List.mem_singleton.mp hb, e]; simp
  · intro i v hv
    have hlt : i < xs.length := by
      have := r.length
      rw [Array.length_toList] at this
      rw [← this]
      exact (Array.getElem?_eq_some_iff.mp hv).1
    exact ⟨xs[i], List.getElem?_eq_getElem hlt, r.get i _ v (List.getElem?_eq_getElem hlt) (by simpa using hv)⟩
theorem iter_str {x : Str} (hh : A.handled = none) : IterOk G A (.str x) (x.cps.toList.map fun c => .str ⟨#[c]⟩) := fun Z s E v Q i h hq => by
  obtain ⟨t, rfl⟩ := h.strInv
  have fin : ∀ (o : Obj) (St : Nat → Heap → Prop), Walks G.prog G.w A s.heap.objs.size [s.heap.objs.size] [s.heap.objs.size] x.cps.size (SignAt x) St → St 0 (s.heap.push o) → (∀ i h, St i h → ∃ o, h.get? s.heap.objs.size = some o ∧ ∀ v, o.data ≠ .cell v) →
      Q (.ref s.heap.objs.size) { s with heap := s.heap.push o } := fun o St W st hf => by
    refine hq o [s.heap.objs.size] (SignAt x) St (by simpa using W) (fun b hb => by rw [List.mem_singleton.mp hb]; exact Nat.le_refl _) (fun b hb hn => absurd (List.mem_singleton.mp hb) hn) st hf (fun i t v s' E' Q' hp _ q => by obtain ⟨c, u, _, rfl⟩ := hp; rw [let_plain (by intro a e; cases e)]; exact wpAny_pure q) ?_
    rintro i v ⟨c, u, hc, rfl⟩
    exact ⟨.str ⟨#[c]⟩, by rw [List.getElem?_map, Array.getElem?_toList, hc]; rfl, .str⟩
  cases ha : x.cps.all (· < 128)
  · exact wpAny_pyIter_wide ha (fin _ _ (Walks.strWide hh _ x t) ⟨_, Heap.get?_push_size _ rfl, rfl, rfl⟩ (fun i h st => let ⟨o, e, _, d⟩ := st; ⟨o, e, fun v q => by rw [d] at q; cases q⟩))
  · exact wpAny_pyIter_ascii ha (fin _ _ (Walks.strAscii hh _ x t) ⟨_, Heap.get?_push_size _ rfl, rfl, rfl⟩ (fun i h st => let ⟨o, e, _, d⟩ := st; ⟨o, e, fun v q => by rw [d] at q; cases q⟩))
theorem iter_range {a c : Int} {n : Nat} (hh : A.handled = none) {b : Int} (hsm : Builtin.Range.small a b c = true) (hn : Builtin.Range.rangeSize a b c = (n : Int)) : IterOk G A (.rng a b c) ((List.range n).map fun (k : Nat) => .int (a + k * c)) := fun Z s E v Q i h hq => by
  cases h with
  | rng e =>
    refine wpAny_pyIter_range (i _ _ e) hsm (hq _ [s.heap.objs.size] (fun i v => i < n ∧ ∃ t, v = .int (a + i * c) t) (fun i h => IsRangeIter h s.heap.objs.size (a + (i : Nat) * c) ((n : Int) - (i : Nat)) c) ?_ (fun b hb => by rw [List.mem_singleton.mp hb]; exact Nat.le_refl _) (fun b hb hn => absurd (List.mem_singleton.mp hb) hn) ?_ (fun i h st => ⟨_, st, fun v q => by cases q⟩) (fun i t v s' E' Q' hp _ q => by obtain ⟨_, u, rfl⟩ := hp; rw [let_plain (by intro a e; cases e)]; exact wpAny_pure q) ?_)
    · have := (Walks.range (prog := G.prog) (w := G.w) hh s.heap.objs.size a c n).bound
      simpa using this
    · show IsRangeIter _ _ _ _ _
      rw [hn]
      simpa using Heap.get?_push_size _ rfl
    · rintro i v ⟨hi, t, rfl⟩
      exact ⟨.int (a + i * c), by rw [List.getElem?_map, List.getElem?_range hi]; rfl, .int⟩
end
end PL

namespace PL

/-- values whose word is one -/
def oneAV : AV → Bool
  | .none | .bool _ | .int _ | .str _ | .qn _ _ _ => true
  | _ => false
theorem VR.one {Z : PH} {x y : AV} {v : Value} (h : VR Z x v) (k : VR Z y v) (hx : oneAV x = true) (hy : oneAV y = true) : x = y := by
  cases h <;> cases k <;> first | rfl | (simp [oneAV] at hx; done) | (simp [oneAV] at hy; done) | skip
  rename_i e1 e2 _ _ _ _ _ _ _ e4 e3
  rw [e1] at e3
  cases e3
  rw [e2] at e4
  cases e4
  rfl

def flatAV : AV → Bool
  | .none | .bool _ | .int _ | .str _ => true
  | _ => false
def empZ : PH := fun _ => none
theorem VR.flat {Z Z' : PH} {x : AV} {v : Value} (h : VR Z x v) (f : flatAV x = true) : VR Z' x v := by
  cases h <;> first | exact .none | exact .bool | exact .int | exact .str | (simp [flatAV] at f; done)

section
variable {α β : Type} {G : Gl} {A : Around} {env : Env} {ρ : Vars}

/-- the words that a comprehension's block reads from around it -/
structure CapOk (env : Env) (scope : Scope) (cl : List (Str × Addr)) (ρ caps : Vars) : Prop where
  cap : ∀ y v, caps.lookup y = some v → ρ.lookup y = some v ∧ (env.kindOf y = some .cell ∨ env.kindOf y = some .free) ∧ (((relabel scope env).names.lookup y = some .cell ∨ (relabel scope env).names.lookup y = some .free)) ∧ cl.lookup y = env.cells.lookup y

theorem CapOk.fm {scope : Scope} {cl : List (Str × Addr)} {caps : Vars} (c : CapOk env scope cl ρ caps) {Z : PH} {h : Heap} (f : FmR Z env ρ h) {C : Addr} {m : Str → Option Value} (hk : scope.kind = .function) (hn : h.Ns C m) {x : Str} {it : AV} {v : Value} (hx : (relabel scope env).names.lookup x = some .local)
    (hm : m x = some v) (hv : VR Z it v) : FmR Z (compEnvC scope cl C env) ((x, it) :: caps) h := by
  obtain ⟨_, g, b, m0, hn0, hv0⟩ := f
  refine ⟨hk, g, b, m, hn, fun y w e => ?_⟩
  rw [List.lookup_cons] at e
  cases q : y == x with
  | true =>
    rw [q] at e
    cases e
    rw [eq_of_beq q]
    exact ⟨v, hv, .inl ⟨hx, hm⟩⟩
  | false =>
    rw [q] at e
    obtain ⟨e1, e2, e3, e4⟩ := c.cap y w e
    obtain ⟨u, hu, r⟩ := hv0 y w e1
    refine ⟨u, hu, .inr ⟨e3, ?_⟩⟩
    rcases r with ⟨r, _⟩ | ⟨_, c', r2, r3⟩
    · rcases e2 with e2 | e2 <;> rw [r] at e2 <;> cases e2
    · exact ⟨c', by show cl.lookup y = _; rw [e4, r2], r3⟩

open Classical in
theorem comp_core {elt iter : Expr} {x : Str} {px : Pos} {ifs : List Expr} {scope : Scope} {pos : Pos} {src : AV} {items : List AV} {cl : List (Str × Addr)} {caps : Vars} (p : AV → Bool) (F : AV → AV)
    (hit : IterOk G A src items) (hn : items.length ≤ 1000000)
    (hone : ∀ it, it ∈ items → oneAV it = true) (hflat : ∀ it, it ∈ items → p it = true → flatAV (F it) = true)
    (hcell : ∀ y ∈ scope.names, y.2 ≠ .cell) (hkind : scope.kind = .function) (hx : scope.names.lookup x = some .local)
    (hcap : CapOk env scope cl ρ caps)
    (htest : ∀ C it, it ∈ items → PW G A (compEnvC scope cl C env) ((x, it) :: caps) (forIn ifs true fun c r => if r = true then do let ok ← isTrue c (compEnvC scope cl C env) (eval c (compEnvC scope cl C env)); pure (ForInStep.yield ok) else pure (ForInStep.yield r)) fun _ b => b = p it)
    (helt : ∀ C it, it ∈ items → p it = true → PE G A (compEnvC scope cl C env) ((x, it) :: caps) elt (F it))
    {Z1 : PH} {s1 : Shared} {E : Value → Shared → Prop} {v : Value} {RR : Value → Addr → Result → Shared → Prop} (z1 : Bs G Z1 s1) (i1 : PIn Z1 s1.heap) (f1 : FmR Z1 env ρ s1.heap) (r1 : VR Z1 src v)
    (hRR : ∀ D C h' tk m' Z', (∀ b o, s1.heap.get? b = some o → h'.get? b = some o) → Grow Z1 Z' s1.heap h' → VR Z' (.list ((items.filter p).map F)) (.ref D) → s1.heap.get? C = none → Z' C = none → h'.Ns C m' → RR (.ref D) C (.ok .next) { s1 with heap := h', toks := tk }) :
    wpAny (model G.prog G.w) A (pyIter v) (fun it s₂ => wpAny (model G.prog G.w) A (newList []) (fun acc s₃ => wpAny (model G.prog G.w) A (newFunctionEnv scope env.globals cl [] env.qual none .none (some env)) (fun cenv s₄ =>
      codeAny (model G.prog G.w) A (.compStart (.ListComp elt [⟨.Name x px, iter, ifs, 0⟩] scope pos) 0 it acc { cenv with scope := relabel scope env }) (RR acc cenv.locals) s₄) E s₃) E s₂) E s1 := by
  refine hit Z1 s1 E v _ i1 r1 fun o fp P St W hfp hfz hst ho hlet hP => ?_
  have kp : ∀ b o', s1.heap.get? b = some o' → (s1.heap.push o).get? b = some o' := fun _ _ e => Heap.get?_push_of_some _ e
  have i2 : PIn Z1 (s1.heap.push o) := fun a o e => kp _ _ (i1 a o e)
  have uni : ∀ it it' v, it ∈ items → it' ∈ items → VR Z1 it v → VR Z1 it' v → it = it' := fun it it' v h1 h2 h3 h4 => h3.one h4 (hone _ h1) (hone _ h2)
  have pin : ∀ j v, P j v → ∃ it, items[j]? = some it ∧ it ∈ items ∧ VR Z1 it v := fun j v h =>
    let ⟨it, h1, h2⟩ := hP j v h
    ⟨it, h1, List.mem_of_getElem? h1, h2⟩
  have pp : ∀ it v, it ∈ items → VR Z1 it v → decide (∃ it, it ∈ items ∧ VR Z1 it v ∧ p it = true) = p it := fun it v h1 h2 => by
    cases q : p it with
    | true => exact decide_eq_true ⟨it, h1, h2, q⟩
    | false => exact decide_eq_false (by rintro ⟨it', h3, h4, h5⟩; rw [uni _ _ _ h3 h1 h4 h2, q] at h5; cases h5)
  refine comp_block_walkC (RR := RR) W (by rw [sizeLine_eq]; omega) (fun v => decide (∃ it, it ∈ items ∧ VR Z1 it v ∧ p it = true)) (fun v y => ∃ it, it ∈ items ∧ VR Z1 it v ∧ VR empZ (F it) y) hcell hkind hx hst (fun b hb => by
    show b < (s1.heap.push o).objs.size
    rw [Heap.size_push]; exact Nat.lt_succ_of_le (hfp b hb)) ?_ ?_
  · refine ⟨fun C j v s3 m3 E' hC hp hn hm hk ht => ?_, fun C j v s3 m3 E' hC hp hpv hn hm hk ht => ?_⟩
    · obtain ⟨it, _, h2, h3⟩ := pin j v hp
      have old : ∀ b o', s1.heap.get? b = some o' → s3.heap.get? b = some o' := fun b o' e => hk b o' (by simpa using Nat.ne_of_lt (Heap.lt_size e)) (kp _ _ e)
      have fm := hcap.fm (f1.mono (PSub.refl _) old) hkind hn (lookup_relabel_local hx) hm h3
      refine wpAny_mono (htest C it h2 Z1 s3 E' ⟨z1.sub, Nat.lt_of_lt_of_le z1.tok ht⟩ (fun a o e => old _ _ (i1 a o e)) fm) (fun b s4 q => ⟨?_, q.1⟩) fun _ _ e => e
      obtain ⟨_, _, _, e⟩ := q
      rw [e, pp it v h2 h3]
    · obtain ⟨it, _, h2, h3⟩ := pin j v hp
      rw [pp it v h2 h3] at hpv
      have old : ∀ b o', s1.heap.get? b = some o' → s3.heap.get? b = some o' := fun b o' e => hk b o' (by simpa using Nat.ne_of_lt (Heap.lt_size e)) (kp _ _ e)
      have fm := hcap.fm (f1.mono (PSub.refl _) old) hkind hn (lookup_relabel_local hx) hm h3
      refine wpAny_mono (helt C it h2 hpv Z1 s3 E' ⟨z1.sub, Nat.lt_of_lt_of_le z1.tok ht⟩ (fun a o e => old _ _ (i1 a o e)) fm) (fun b s4 q => ⟨?_, q.1⟩) fun _ _ e => e
      obtain ⟨_, _, _, e⟩ := q
      exact ⟨it, h2, h3, e.flat (hflat it h2 hpv)⟩
  · intro D C h' tk m' ys vs hD hC hDC hn hl hpl hlen hvs hF hk
    obtain ⟨nn, hpl'⟩ := hpl
    have fresh : ∀ a, (s1.heap.push o).get? a = none → s1.heap.get? a = none := fun a e => by
      cases q : s1.heap.get? a with
      | none => rfl
      | some o' => rw [kp _ _ q] at e; cases e
    have old : ∀ b o', s1.heap.get? b = some o' → h'.get? b = some o' := fun b o' e => hk b o' (by simpa using Nat.ne_of_lt (Heap.lt_size e)) (kp _ _ e)
    have all : ∀ (its : List AV) (vs : List Value) (ys : List Value), its.length = vs.length → (∀ it, it ∈ its → it ∈ items) → (∀ (j : Nat) v, vs[j]? = some v → ∃ it, its[j]? = some it ∧ VR Z1 it v) →
        Paired (fun v y => ∃ it, it ∈ items ∧ VR Z1 it v ∧ VR empZ (F it) y) (vs.filter fun v => decide (∃ it, it ∈ items ∧ VR Z1 it v ∧ p it = true)) ys → VRs empZ ((its.filter p).map F) ys := by
      intro its
      induction its with
      | nil =>
        intro vs ys hl _ _ hF
        have : vs = [] := List.eq_nil_of_length_eq_zero hl.symm
        subst this
        cases hF
        exact .nil
      | cons it its ih =>
        intro vs ys hl hmem hv hF
        cases vs with
        | nil => simp at hl
        | cons v vs =>
          obtain ⟨it', e1, e2⟩ := hv 0 v rfl
          cases e1
          have hi := hmem it (.head _)
          have q := pp it v hi e2
          have rest := fun ys => ih vs ys (by simpa using hl) (fun x hx => hmem x (.tail _ hx)) (fun j v' e => by simpa using hv (j + 1) v' (by simpa using e))
          rw [List.filter_cons, q] at hF
          rw [List.filter_cons]
          cases hq : p it with
          | false =>
            rw [hq] at hF
            exact rest ys hF
          | true =>
            rw [hq] at hF
            simp only [if_true] at hF ⊢
            cases hF with
            | cons h1 h2 =>
              obtain ⟨it2, e3, e4, e5⟩ := h1
              rw [uni _ _ _ e3 hi e4 e2] at e5
              exact .cons e5 (rest _ h2)
    have fin := all items vs ys.toList hlen.symm (fun _ h => h) (fun j v e => let ⟨it, h1, _, h3⟩ := pin j v (hvs j v e); ⟨it, h1, h3⟩) hF
    have g' : Grow Z1 (Zp Z1 D (listO ys nn)) s1.heap h' := Zp.grow i1 old hpl' (fresh _ hD)
    refine hRR D C h' tk m' _ old g' (VR.list' (vs := ys.toList) (by rw [Array.toArray_toList]; exact Zp.self) (fin.mono fun _ _ e => by cases e)) (fresh _ hC) ?_ hn
    unfold Zp
    rw [if_neg (Ne.symm hDC)]
    cases q : Z1 C with
    | none => rfl
    | some o' => have := i1 _ _ q; rw [fresh _ hC] at this; cases this

theorem PE_comp {elt iter : Expr} {x : Str} {px : Pos} {ifs : List Expr} {scope : Scope} {pos : Pos} {src : AV} {items : List AV} {cl : List (Str × Addr)} {caps : Vars} (p : AV → Bool) (F : AV → AV)
    (hsrc : PE G A env ρ iter src) (hit : IterOk G A src items) (hn : items.length ≤ 1000000)
    (hone : ∀ it, it ∈ items → oneAV it = true) (hflat : ∀ it, it ∈ items → p it = true → flatAV (F it) = true)
    (hclos : closureFor scope env = pure cl) (hcell : ∀ y ∈ scope.names, y.2 ≠ .cell) (hkind : scope.kind = .function)
    (hnames : ∀ y ∈ scope.names, y.2 = .local → scope.names.lookup y.1 = some .local) (hx : scope.names.lookup x = some .local)
    (hcap : CapOk env scope cl ρ caps)
    (htest : ∀ C it, it ∈ items → PW G A (compEnvC scope cl C env) ((x, it) :: caps) (forIn ifs true fun c r => if r = true then do let ok ← isTrue c (compEnvC scope cl C env) (eval c (compEnvC scope cl C env)); pure (ForInStep.yield ok) else pure (ForInStep.yield r)) fun _ b => b = p it)
    (helt : ∀ C it, it ∈ items → p it = true → PE G A (compEnvC scope cl C env) ((x, it) :: caps) elt (F it))
    (hs : ∀ x, foldedSetIterable iter env x = pure x := by intro _; rfl) :
    PE G A env ρ (.ListComp elt [⟨.Name x px, iter, ifs, 0⟩] scope pos) (.list ((items.filter p).map F)) := fun Z s E z0 i f => by
  rw [eval_ListComp]
  refine wpAny_comprehension_free (use := none) rfl hs hclos hkind hnames (hsrc.seq z0 i f fun v s1 Z1 k1 g1 r1 z1 f1 => comp_core p F hit hn hone hflat hcell hkind hx hcap htest helt z1 g1.inn f1 r1 fun D C h' tk m' Z' old g' r' hC hZC hn => ?_)
  refine ⟨m', hn, fun h'' hs'' => ?_⟩
  have g2 : Grow Z1 Z' s1.heap h'' := ⟨g'.sub, fun b o e => hs''.extBut b o (by rintro rfl; rw [hZC] at e; cases e) (g'.inn b o e), g'.new⟩
  exact PPost.trans (R := fun Z v => VR Z (.list ((items.filter p).map F)) v) k1 g1 ⟨keeps_of (fun b o e => hs''.extBut b o (by rintro rfl; rw [hC] at e; cases e) (old b o e)), _, g2, r'⟩

theorem PW_tests0 {f : Expr → Bool → Sem (ForInStep Bool)} : PW G A env ρ (forIn ([] : List Expr) true f) fun _ b => b = true := fun Z s E z0 i _ => by
  rw [List.forIn_nil]; exact wpAny_pure (PPost.same (R := fun _ b => b = true) i (keeps_refl s) rfl)
theorem PW_tests1 {c : Expr} {b : Bool} (h : PT G A env ρ c b) : PW G A env ρ (forIn [c] true fun c r => if r = true then do let ok ← isTrue c env (eval c env); pure (ForInStep.yield ok) else pure (ForInStep.yield r)) fun _ r => r = b := fun Z s E z0 i f => by
  rw [List.forIn_cons]
  refine wpAny_bind ?_
  simp only [if_true]
  refine wpAny_bind (h.seq z0 i f fun v s1 Z1 k1 g1 r1 z1 f1 => wpAny_pure ?_)
  show wpAny _ A (forIn [] v _) _ E s1
  rw [List.forIn_nil]
  exact wpAny_pure (PPost.trans (R := fun _ r => r = b) k1 g1 (PPost.same (R := fun _ r => r = b) g1.inn (keeps_refl _) r1))
end
end PL

namespace PL

/-- what a frame is: its memo tables of lambdas, the cells it may store -/
structure Fx where
  env : Env
  mc : List Str := []
  tabs : List (Addr × Addr × Str) := []
  fz : List (Str × Value) := []

/-- a memo table: what it holds is code -/
def TabInv (Z : PH) (ps : Array Value) (q : Str) : Prop := TriplesOk ps.toList ∧ ∀ pos cv, codeAmong pos ps.toList = some cv → PCode Z cv q

inductive Own (X : Fx) (σ : List (Addr × List AV)) : Addr → Prop
  | loc : Own X σ X.env.locals
  | cell {x : Str} {c : Addr} : x ∈ X.mc → X.env.cells.lookup x = some c → Own X σ c
  | lst {p : Addr × List AV} : p ∈ σ → Own X σ p.1
  | tab {q : Addr × Addr × Str} : q ∈ X.tabs → Own X σ q.2.1

structure St (X : Fx) (W Z : PH) (ρ : Vars) (σ : List (Addr × List AV)) (h : Heap) : Prop where
  z : PIn Z h
  w : PIn W h
  zw : ∀ a o, Z a = some o → W a = none
  off : ∀ a, Own X σ a → Z a = none ∧ W a = none
  kind : X.env.scope.kind = .function
  gl : X.env.globals = mainGlobals
  bi : X.env.builtins = builtinsNs
  vars : ∃ m, h.Ns X.env.locals m ∧ ∀ x v, ρ.lookup x = some v → VarR Z X.env m h x v
  own : ∀ p ∈ σ, ∃ vs n, h.get? p.1 = some (listO vs n) ∧ VRs Z p.2 vs.toList
  nd : (σ.map (·.1)).Nodup
  cells : ∀ x ∈ X.mc, ∃ c v, X.env.kindOf x = some .cell ∧ X.env.cells.lookup x = some c ∧ h.IsCell c v
  cnd : ∀ x ∈ X.mc, ∀ y c, X.env.cells.lookup x = some c → X.env.cells.lookup y = some c → y = x
  tab : ∀ q ∈ X.tabs, ∃ ps, h.get? q.2.1 = some (tabObj ps) ∧ TabInv Z ps q.2.2
  tnd : (X.tabs.map (·.2.1)).Nodup
  frz : ∀ p ∈ X.fz, ∃ c, X.env.cells.lookup p.1 = some c ∧ X.env.kindOf p.1 = some .cell ∧ PCell Z c p.2

section
variable {X : Fx} {W Z Z' : PH} {ρ ρ' : Vars} {σ σ' : List (Addr × List AV)} {h h' : Heap}

theorem St.fm (x : St X W Z ρ σ h) : FmR Z X.env ρ h := ⟨x.kind, x.gl, x.bi, x.vars⟩

theorem TabInv.mono (k : PSub Z Z') {ps : Array Value} {q : Str} (x : TabInv Z ps q) : TabInv Z' ps q := ⟨x.1, fun p cv e => (x.2 p cv e).mono k⟩

theorem Own.there (x : St X W Z ρ σ h) {a : Addr} (o : Own X σ a) : ∃ ob, h.get? a = some ob := by
  cases o with
  | loc => obtain ⟨m, ⟨ob, _, _, e, _⟩, _⟩ := x.vars; exact ⟨ob, e⟩
  | cell hx hc =>
    obtain ⟨c, v, _, e, ob, e2, _⟩ := x.cells _ hx
    rw [hc] at e; cases e
    exact ⟨ob, e2⟩
  | lst hp => obtain ⟨vs, n, e, _⟩ := x.own _ hp; exact ⟨_, e⟩
  | tab hq => obtain ⟨ps, e, _⟩ := x.tab _ hq; exact ⟨_, e⟩

/-- the heap grows, what is new may be frozen -/
theorem St.grow (x : St X W Z ρ σ h) (k : ∀ b o, h.get? b = some o → h'.get? b = some o) (g : Grow Z Z' h h') : St X W Z' ρ σ h' where
  z := g.inn
  w := fun a o e => k _ _ (x.w a o e)
  zw := fun a o e => by
    rcases g.new a o e with q | q
    · exact x.zw a o q
    · cases r : W a with
      | none => rfl
      | some o' => rw [x.w a o' r] at q; cases q
  off := fun a ow => by
    obtain ⟨h1, h2⟩ := x.off a ow
    refine ⟨?_, h2⟩
    cases r : Z' a with
    | none => rfl
    | some o =>
      obtain ⟨ob, e⟩ := ow.there x
      rcases g.new a o r with q | q
      · rw [h1] at q; cases q
      · rw [e] at q; cases q
  kind := x.kind
  gl := x.gl
  bi := x.bi
  vars := (x.fm.mono g.sub k).vars
  own := fun p hp => let ⟨vs, n, e, r⟩ := x.own p hp; ⟨vs, n, k _ _ e, r.mono g.sub⟩
  nd := x.nd
  cells := fun y hy => let ⟨c, v, h1, h2, h3⟩ := x.cells y hy; ⟨c, v, h1, h2, h3.keeps k⟩
  cnd := x.cnd
  tab := fun q hq => let ⟨ps, e, r⟩ := x.tab q hq; ⟨ps, k _ _ e, r.mono g.sub⟩
  tnd := x.tnd
  frz := fun p hp => let ⟨c, h1, h2, h3⟩ := x.frz p hp; ⟨c, h1, h2, h3.mono g.sub⟩

theorem VarR.keep {env : Env} {m : Str → Option Value} {x : Str} {v : AV} (r : VarR Z env m h x v) (k : ∀ c u, h.IsCell c u → env.cells.lookup x = some c → h'.IsCell c u) : VarR Z env m h' x v := by
  obtain ⟨w, hw, r⟩ := r
  refine ⟨w, hw, ?_⟩
  rcases r with r | ⟨r1, c, r2, r3⟩
  · exact .inl r
  · exact .inr ⟨r1, c, r2, k _ _ r3 r2⟩

def setV (ρ : Vars) (x : Str) (v : AV) : Vars := match ρ with
  | [] => [(x, v)]
  | (y, u) :: r => if y == x then (x, v) :: r else (y, u) :: setV r x v
theorem lookup_cons_if {y z : Str} {u : AV} {r : Vars} : List.lookup y ((z, u) :: r) = if y = z then some u else r.lookup y := by
  rw [List.lookup_cons]
  cases q : y == z with
  | true => rw [if_pos (eq_of_beq q)]
  | false => rw [if_neg (fun e => by rw [e] at q; simp at q)]
theorem setV_lookup : ∀ (ρ : Vars) (x y : Str) (v : AV), (setV ρ x v).lookup y = if y = x then some v else ρ.lookup y
  | [], x, y, v => by
    show List.lookup y [(x, v)] = _
    rw [lookup_cons_if]
  | (z, u) :: r, x, y, v => by
    unfold setV
    by_cases q : z = x
    · subst q
      rw [if_pos (beq_self_eq_true z), lookup_cons_if, lookup_cons_if]
      by_cases q : y = z
      · rw [if_pos q, if_pos q]
      · rw [if_neg q, if_neg q, if_neg q]
    · rw [if_neg (by simpa using q), lookup_cons_if, lookup_cons_if, setV_lookup r x y v]
      by_cases q2 : y = z
      · subst q2; rw [if_pos rfl, if_neg q, if_pos rfl]
      · rw [if_neg q2, if_neg q2]

/-- the store of a local name -/
theorem St.setLocal (x : St X W Z ρ σ h) {m' : Str → Option Value} {m : Str → Option Value} {y : Str} {v : AV} {w : Value} (hy : X.env.kindOf y = some .local) (hm : h.Ns X.env.locals m) (hv : ∀ x v, ρ.lookup x = some v → VarR Z X.env m h x v)
    (hn : h'.Ns X.env.locals fun z => if z = y then some w else m z) (hs : Heap.SameBut X.env.locals h h') (r : VR Z v w) : St X W Z (setV ρ y v) σ h' := by
  have offL := x.off _ .loc
  have up : ∀ b o, b ≠ X.env.locals → h.get? b = some o → h'.get? b = some o := fun b o n e => (hs.2 b n).trans e
  have isd : ∃ ob es ep, h.get? X.env.locals = some ob ∧ ob.data = .dict es ep := let ⟨ob, es, ep, e, d, _⟩ := hm; ⟨ob, es, ep, e, d⟩
  obtain ⟨ob, es, ep, eL, dL⟩ := isd
  have nl : ∀ {a : Addr} {o : Obj}, h.get? a = some o → (∀ es ep, o.data ≠ .dict es ep) → a ≠ X.env.locals := fun e d q => by
    subst q; rw [eL] at e; cases e; exact d _ _ dL
  refine { z := fun a o e => up a o (fun q => by rw [q, offL.1] at e; cases e) (x.z a o e), w := fun a o e => up a o (fun q => by rw [q, offL.2] at e; cases e) (x.w a o e), zw := x.zw, off := x.off, kind := x.kind, gl := x.gl, bi := x.bi,
           vars := ⟨_, hn, fun z u e => ?_⟩, own := fun p hp => ?_, nd := x.nd, cells := fun z hz => ?_, cnd := x.cnd, tab := fun q hq => ?_, tnd := x.tnd, frz := x.frz }
  · rw [setV_lookup] at e
    by_cases q : z = y
    · subst q
      rw [if_pos rfl] at e
      cases e
      exact ⟨w, r, .inl ⟨hy, by simp⟩⟩
    · rw [if_neg q] at e
      obtain ⟨w', hw', rr⟩ := hv z u e
      refine ⟨w', hw', ?_⟩
      rcases rr with ⟨r1, r2⟩ | ⟨r1, c, r2, ob', r3, r4⟩
      · exact .inl ⟨r1, by show (if z = y then some w else m z) = _; rw [if_neg q]; exact r2⟩
      · exact .inr ⟨r1, c, r2, ob', up _ _ (nl r3 (fun _ _ q => by rw [r4] at q; cases q)) r3, r4⟩
  · obtain ⟨vs, n, e, rr⟩ := x.own p hp
    exact ⟨vs, n, up _ _ (nl e (fun _ _ q => by cases q)) e, rr⟩
  · obtain ⟨c, v, h1, h2, ob', h3, h4⟩ := x.cells z hz
    exact ⟨c, v, h1, h2, ob', up _ _ (nl h3 (fun _ _ q => by rw [h4] at q; cases q)) h3, h4⟩
  · obtain ⟨ps, e, rr⟩ := x.tab q hq
    exact ⟨ps, up _ _ (nl e (fun _ _ q => by cases q)) e, rr⟩

/-- the store of a cell -/
theorem St.setCell (x : St X W Z ρ σ h) {y : Str} {v : AV} {w : Value} {c : Addr} (hy : y ∈ X.mc) (hc : X.env.cells.lookup y = some c) (hk : X.env.kindOf y = some .cell)
    (hn : h'.IsCell c (some w)) (hs : Heap.SameBut c h h') (r : VR Z v w) : St X W Z (setV ρ y v) σ h' := by
  have offc := x.off c (.cell hy hc)
  obtain ⟨c', v₀, _, h2, ob, ec, dc⟩ := x.cells y hy
  rw [hc] at h2; cases h2
  have up : ∀ b o, b ≠ c → h.get? b = some o → h'.get? b = some o := fun b o n e => (hs.2 b n).trans e
  have nl : ∀ {a : Addr} {o : Obj}, h.get? a = some o → (∀ v, o.data ≠ .cell v) → a ≠ c := fun e d q => by
    subst q; rw [ec] at e; cases e; exact d _ dc
  obtain ⟨m, hm, hv⟩ := x.vars
  refine { z := fun a o e => up a o (fun q => by rw [q, offc.1] at e; cases e) (x.z a o e), w := fun a o e => up a o (fun q => by rw [q, offc.2] at e; cases e) (x.w a o e), zw := x.zw, off := x.off, kind := x.kind, gl := x.gl, bi := x.bi,
           vars := ⟨m, ?_, fun z u e => ?_⟩, own := fun p hp => ?_, nd := x.nd, cells := fun z hz => ?_, cnd := x.cnd, tab := fun q hq => ?_, tnd := x.tnd, frz := x.frz }
  · obtain ⟨ol, es, ep, e, d, rr⟩ := hm
    exact ⟨ol, es, ep, up _ _ (nl e (fun _ q => by rw [d] at q; cases q)) e, d, rr⟩
  · rw [setV_lookup] at e
    by_cases q : z = y
    · subst q
      rw [if_pos rfl] at e
      cases e
      exact ⟨w, r, .inr ⟨.inl hk, c, hc, hn⟩⟩
    · rw [if_neg q] at e
      refine (hv z u e).keep fun c2 u2 hcell hl => ?_
      obtain ⟨ob', r3, r4⟩ := hcell
      exact ⟨ob', up _ _ (fun q2 => by subst q2; exact q (x.cnd y hy z _ hc hl)) r3, r4⟩
  · obtain ⟨vs, n, e, rr⟩ := x.own p hp
    exact ⟨vs, n, up _ _ (nl e (fun _ q => by cases q)) e, rr⟩
  · obtain ⟨c2, v, h1, h2, ob', h3, h4⟩ := x.cells z hz
    by_cases q : c2 = c
    · subst q; exact ⟨c2, some w, h1, h2, hn⟩
    · exact ⟨c2, v, h1, h2, ob', up _ _ q h3, h4⟩
  · obtain ⟨ps, e, rr⟩ := x.tab q hq
    exact ⟨ps, up _ _ (nl e (fun _ q => by cases q)) e, rr⟩

/-- an own list put anew -/
inductive PutL (a : Addr) (xs ys : List AV) : List (Addr × List AV) → List (Addr × List AV) → Prop
  | head {r : List (Addr × List AV)} : PutL a xs ys ((a, xs) :: r) ((a, ys) :: r)
  | tail {p : Addr × List AV} {r r' : List (Addr × List AV)} : PutL a xs ys r r' → PutL a xs ys (p :: r) (p :: r')
theorem PutL.map {a : Addr} {xs ys : List AV} (p : PutL a xs ys σ σ') : σ'.map (·.1) = σ.map (·.1) := by
  induction p with
  | head => rfl
  | tail _ ih => simp [ih]
theorem PutL.mem {a : Addr} {xs ys : List AV} (p : PutL a xs ys σ σ') : (a, xs) ∈ σ := by
  induction p with
  | head => exact .head _
  | tail _ ih => exact .tail _ ih
theorem PutL.back {a : Addr} {xs ys : List AV} (p : PutL a xs ys σ σ') (nd : (σ.map (·.1)).Nodup) : ∀ q ∈ σ', (q = (a, ys)) ∨ (q ∈ σ ∧ q.1 ≠ a) := by
  induction p with
  | head =>
    intro q hq
    rcases List.mem_cons.mp hq with rfl | hq
    · exact .inl rfl
    · refine .inr ⟨.tail _ hq, fun e => ?_⟩
      have := (List.nodup_cons.mp nd).1
      exact this (e ▸ List.mem_map_of_mem (f := (·.1)) hq)
  | tail p ih =>
    intro q hq
    have nd2 := List.nodup_cons.mp nd
    rcases List.mem_cons.mp hq with rfl | hq
    · refine .inr ⟨.head _, fun e => nd2.1 ?_⟩
      have h0 := List.mem_map_of_mem (f := (·.1)) p.mem
      subst e
      exact h0
    · rcases ih nd2.2 q hq with r | ⟨r, s⟩
      · exact .inl r
      · exact .inr ⟨.tail _ r, s⟩
theorem Own.put {a : Addr} {xs ys : List AV} (p : PutL a xs ys σ σ') {b : Addr} (o : Own X σ' b) : Own X σ b := by
  cases o with
  | loc => exact .loc
  | cell h1 h2 => exact .cell h1 h2
  | lst hp =>
    have := List.mem_map_of_mem (f := (·.1)) hp
    rw [p.map] at this
    obtain ⟨q, hq, e⟩ := List.mem_map.mp this
    rw [← e]; exact .lst hq
  | tab h => exact .tab h

theorem St.setList (x : St X W Z ρ σ h) {a : Addr} {xs ys : List AV} {vs : Array Value} {n : Nat} (p : PutL a xs ys σ σ') (hn : h'.get? a = some (listO vs n)) (hs : Heap.SameBut a h h') (r : VRs Z ys vs.toList) : St X W Z ρ σ' h' := by
  have offa := x.off a (.lst p.mem)
  obtain ⟨vs0, n0, ea, _⟩ := x.own _ p.mem
  have up : ∀ b o, b ≠ a → h.get? b = some o → h'.get? b = some o := fun b o n e => (hs.2 b n).trans e
  have nl : ∀ {b : Addr} {o : Obj}, h.get? b = some o → (∀ v n, o.data ≠ .seq v n) → b ≠ a := fun e d q => by
    subst q; rw [ea] at e; cases e; exact d _ _ rfl
  obtain ⟨m, hm, hv⟩ := x.vars
  refine { z := fun b o e => up b o (fun q => by rw [q, offa.1] at e; cases e) (x.z b o e), w := fun b o e => up b o (fun q => by rw [q, offa.2] at e; cases e) (x.w b o e), zw := x.zw, off := fun b o => x.off b (o.put p), kind := x.kind, gl := x.gl, bi := x.bi,
           vars := ⟨m, ?_, fun z u e => ?_⟩, own := fun q hq => ?_, nd := by rw [p.map]; exact x.nd, cells := fun z hz => ?_, cnd := x.cnd, tab := fun q hq => ?_, tnd := x.tnd, frz := x.frz }
  · obtain ⟨ol, es, ep, e, d, rr⟩ := hm
    exact ⟨ol, es, ep, up _ _ (nl e (fun _ _ q => by rw [d] at q; cases q)) e, d, rr⟩
  · refine (hv z u e).keep fun c2 u2 hcell hl => ?_
    obtain ⟨ob', r3, r4⟩ := hcell
    exact ⟨ob', up _ _ (nl r3 (fun _ _ q => by rw [r4] at q; cases q)) r3, r4⟩
  · rcases p.back x.nd q hq with rfl | ⟨hq, hne⟩
    · exact ⟨vs, n, hn, r⟩
    · obtain ⟨vs, n, e, rr⟩ := x.own q hq
      exact ⟨vs, n, up _ _ hne e, rr⟩
  · obtain ⟨c2, v, h1, h2, ob', h3, h4⟩ := x.cells z hz
    exact ⟨c2, v, h1, h2, ob', up _ _ (nl h3 (fun _ _ q => by rw [h4] at q; cases q)) h3, h4⟩
  · obtain ⟨ps, e, rr⟩ := x.tab q hq
    exact ⟨ps, up _ _ (nl e (fun _ _ q => by cases q)) e, rr⟩

/-- a new list of the frame's own -/
theorem St.newList (x : St X W Z ρ σ h) {a : Addr} {xs : List AV} {vs : Array Value} {n : Nat} (k : ∀ b o, h.get? b = some o → h'.get? b = some o) (hn : h'.get? a = some (listO vs n)) (hf : h.get? a = none) (r : VRs Z xs vs.toList) : St X W Z ρ ((a, xs) :: σ) h' := by
  have y := x.grow k (Z' := Z) ⟨PSub.refl Z, fun b o e => k _ _ (x.z b o e), fun _ _ e => .inl e⟩
  refine { y with off := fun b o => ?_, own := fun p hp => ?_, nd := ?_ }
  · cases o with
    | loc => exact x.off _ .loc
    | cell h1 h2 => exact x.off _ (.cell h1 h2)
    | tab h => exact x.off _ (.tab h)
    | lst hp =>
      rcases List.mem_cons.mp hp with rfl | hp
      · refine ⟨?_, ?_⟩
        · cases q : Z a with
          | none => rfl
          | some o => rw [x.z a o q] at hf; cases hf
        · cases q : W a with
          | none => rfl
          | some o => rw [x.w a o q] at hf; cases hf
      · exact x.off _ (.lst hp)
  · rcases List.mem_cons.mp hp with rfl | hp
    · exact ⟨vs, n, hn, r⟩
    · exact y.own p hp
  · refine List.nodup_cons.mpr ⟨fun hm => ?_, x.nd⟩
    obtain ⟨p, hp, e⟩ := List.mem_map.mp hm
    obtain ⟨vs, n, e2, _⟩ := x.own p hp
    rw [e] at e2
    have e3 : h.get? a = some _ := e2
    rw [e3] at hf; cases hf

/-- an own list frozen for good -/
theorem St.freeze {a : Addr} {xs : List AV} (x : St X W Z ρ ((a, xs) :: σ) h) : ∃ Z', PSub Z Z' ∧ St X W Z' ρ σ h ∧ VR Z' (.list xs) (.ref a) := by
  obtain ⟨vs, n, e, r⟩ := x.own _ (.head _)
  have offa := x.off a (.lst (.head _))
  have nda := List.nodup_cons.mp x.nd
  have sub : PSub Z (Zp Z a (listO vs n)) := fun b o q => by
    unfold Zp
    by_cases r : b = a
    · subst r; rw [offa.1] at q; cases q
    · rw [if_neg r]; exact q
  refine ⟨Zp Z a (listO vs n), sub, ?_, VR.list' (vs := vs.toList) (by rw [Array.toArray_toList]; exact Zp.self) (r.mono sub)⟩
  have up : ∀ b, Own X σ b → b ≠ a := fun b o q => by
    subst q
    cases o with
    | loc => obtain ⟨m, ⟨ob, es, ep, e2, d, _⟩, _⟩ := x.vars; rw [e] at e2; cases e2; cases d
    | cell h1 h2 =>
      obtain ⟨c, v, _, e2, ob, e3, d⟩ := x.cells _ h1
      rw [h2] at e2; cases e2
      rw [e] at e3; cases e3; cases d
    | lst hp => exact nda.1 (List.mem_map_of_mem (f := (·.1)) hp)
    | tab hq => obtain ⟨ps, e2, _⟩ := x.tab _ hq; rw [e] at e2; cases e2
  have far : ∀ b, b ≠ a → Zp Z a (listO vs n) b = Z b := fun b q => by unfold Zp; rw [if_neg q]
  refine { z := fun b o q => ?_, w := x.w, zw := fun b o q => ?_, off := fun b o => ?_, kind := x.kind, gl := x.gl, bi := x.bi, vars := (x.fm.mono sub fun _ _ e => e).vars,
           own := fun p hp => ?_, nd := nda.2, cells := x.cells, cnd := x.cnd, tab := fun q hq => ?_, tnd := x.tnd, frz := fun p hp => let ⟨c, h1, h2, h3⟩ := x.frz p hp; ⟨c, h1, h2, h3.mono sub⟩ }
  · by_cases r : b = a
    · subst r; rw [Zp.self] at q; cases q; exact e
    · rw [far b r] at q; exact x.z b o q
  · by_cases r : b = a
    · subst r; exact offa.2
    · rw [far b r] at q; exact x.zw b o q
  · have o' : Own X ((a, xs) :: σ) b := by
      cases o with
      | loc => exact .loc
      | cell h1 h2 => exact .cell h1 h2
      | lst hp => exact .lst (.tail _ hp)
      | tab h => exact .tab h
    have := x.off b o'
    exact ⟨by rw [far b (up b o)]; exact this.1, this.2⟩
  · obtain ⟨vs', n', e', r'⟩ := x.own p (.tail _ hp)
    exact ⟨vs', n', e', r'.mono sub⟩
  · obtain ⟨ps, e', r'⟩ := x.tab q hq
    exact ⟨ps, e', r'.mono sub⟩
end
end PL

namespace PL

abbrev Sg := List (Addr × List AV)

inductive Out where
  | next (ρ : Vars) (σ : Sg)
  | brk (ρ : Vars) (σ : Sg)
  | cont (ρ : Vars) (σ : Sg)
  | ret (x : AV) (σ : Sg)

inductive OutR (X : Fx) (W Z : PH) (h : Heap) : Flow → Out → Prop
  | next {ρ : Vars} {σ : Sg} : St X W Z ρ σ h → OutR X W Z h .next (.next ρ σ)
  | brk {ρ : Vars} {σ : Sg} : St X W Z ρ σ h → OutR X W Z h .brk (.brk ρ σ)
  | cont {ρ : Vars} {σ : Sg} : St X W Z ρ σ h → OutR X W Z h .cont (.cont ρ σ)
  | ret {x : AV} {v : Value} {σ : Sg} : St X W Z [] σ h → VR Z x v → OutR X W Z h (.ret v) (.ret x σ)

def Ext (s s' : Shared) : Prop := ∃ h tk, s' = { s with heap := h, toks := tk }
theorem Ext.refl (s : Shared) : Ext s s := ⟨s.heap, s.toks, rfl⟩
theorem Ext.trans {s s1 s2 : Shared} (x : Ext s s1) (y : Ext s1 s2) : Ext s s2 := by
  obtain ⟨h1, t1, rfl⟩ := x
  obtain ⟨h2, t2, rfl⟩ := y
  exact ⟨h2, t2, rfl⟩
theorem Ext.ofKeeps {s s' : Shared} (k : Keeps s s') : Ext s s' := let ⟨h, t, e, _⟩ := k; ⟨h, t, e⟩

def SPost (X : Fx) (W Z : PH) (s : Shared) (Post : Out → Prop) (fl : Flow) (s' : Shared) : Prop :=
  Ext s s' ∧ ∃ Z' out, PSub Z Z' ∧ OutR X W Z' s'.heap fl out ∧ Post out
theorem SPost.trans {X : Fx} {W Z Z1 : PH} {s s1 s' : Shared} {Post : Out → Prop} {fl : Flow} (e : Ext s s1) (k : PSub Z Z1) (p : SPost X W Z1 s1 Post fl s') : SPost X W Z s Post fl s' :=
  let ⟨e2, Z', out, k2, r⟩ := p
  ⟨e.trans e2, Z', out, k.trans k2, r⟩

/-- a statement -/
def SJ (G : Gl) (A : Around) (X : Fx) (ρ : Vars) (σ : Sg) (t : Sem Flow) (Post : Out → Prop) : Prop :=
  ∀ (W Z : PH) (s : Shared) (E : Value → Shared → Prop), Bs G Z s → St X W Z ρ σ s.heap → wpAny (model G.prog G.w) A t (SPost X W Z s Post) E s
def EPost (X : Fx) (W Z : PH) (ρ : Vars) (s : Shared) (Post : Sg → AV → Prop) (v : Value) (s' : Shared) : Prop :=
  Ext s s' ∧ ∃ Z' σ' x, PSub Z Z' ∧ St X W Z' ρ σ' s'.heap ∧ VR Z' x v ∧ Post σ' x
/-- an expression that may change the frame's own lists -/
def EJ (G : Gl) (A : Around) (X : Fx) (ρ : Vars) (σ : Sg) (t : Sem Value) (Post : Sg → AV → Prop) : Prop :=
  ∀ (W Z : PH) (s : Shared) (E : Value → Shared → Prop), Bs G Z s → St X W Z ρ σ s.heap → wpAny (model G.prog G.w) A t (EPost X W Z ρ s Post) E s
/-- a test -/
def TJ (G : Gl) (A : Around) (X : Fx) (ρ : Vars) (σ : Sg) (e : Expr) (b : Bool) : Prop :=
  ∀ (W Z : PH) (s : Shared) (E : Value → Shared → Prop), Bs G Z s → St X W Z ρ σ s.heap → wpAny (model G.prog G.w) A (isTrue e X.env (eval e X.env)) (fun c s' => c = b ∧ Keeps s s') E s

section
variable {G : Gl} {A : Around} {X : Fx} {ρ : Vars} {σ : Sg} {Post : Out → Prop}

theorem St.up {W Z : PH} {h h' : Heap} (x : St X W Z ρ σ h) (k : ∀ b o, h.get? b = some o → h'.get? b = some o) : St X W Z ρ σ h' :=
  x.grow k ⟨PSub.refl Z, fun a o e => k _ _ (x.z a o e), fun _ _ e => .inl e⟩

/-- the own lists seen as if frozen -/
def ViewOk (ρ : Vars) (σ : Sg) (ρ' : Vars) : Prop := ∀ y v, ρ'.lookup y = some v → ρ.lookup y = some v ∨ ∃ a xs, ρ.lookup y = some (.ref a) ∧ v = .list xs ∧ (a, xs) ∈ σ
theorem ViewOk.refl : ViewOk ρ σ ρ := fun _ _ e => .inl e

open Classical in
noncomputable def Zv (Z : PH) (σ : Sg) (h : Heap) : PH := fun b => if b ∈ σ.map (·.1) then h.get? b else Z b
theorem Zv.fm {W Z : PH} {h : Heap} (x : St X W Z ρ σ h) {ρ' : Vars} (v : ViewOk ρ σ ρ') : PSub Z (Zv Z σ h) ∧ PIn (Zv Z σ h) h ∧ FmR (Zv Z σ h) X.env ρ' h := by
  have sub : PSub Z (Zv Z σ h) := fun b o e => by
    unfold Zv
    split
    · exact x.z b o e
    · exact e
  refine ⟨sub, fun b o e => ?_, x.kind, x.gl, x.bi, ?_⟩
  · unfold Zv at e
    split at e
    · exact e
    · exact x.z b o e
  · obtain ⟨m, hm, hv⟩ := x.vars
    refine ⟨m, hm, fun y u e => ?_⟩
    rcases v y u e with q | ⟨a, xs, q, rfl, hmem⟩
    · obtain ⟨w, hw, r⟩ := hv y u q
      exact ⟨w, hw.mono sub, r⟩
    · obtain ⟨w, hw, r⟩ := hv y _ q
      cases hw.refInv
      obtain ⟨vs, n, e2, r2⟩ := x.own _ hmem
      refine ⟨_, VR.list' (vs := vs.toList) (n := n) ?_ (r2.mono sub), r⟩
      unfold Zv
      rw [if_pos (List.mem_map_of_mem (f := (·.1)) hmem), e2, Array.toArray_toList]

theorem EJ_pure {e : Expr} {x : AV} {P : Sg → AV → Prop} (h : PE G A X.env ρ e x) (p : P σ x) : EJ G A X ρ σ (eval e X.env) P := fun W Z s E z0 st =>
  wpAny_mono (h Z s E z0 st.z st.fm) (fun v s' q => by
    obtain ⟨k, Z', g, r⟩ := q
    exact ⟨.ofKeeps k, Z', σ, x, g.sub, st.grow (kk k) g, r, p⟩) fun _ _ e => e
/-- the result is a fresh thing of which a word is said -/
theorem EJ_pureR {e : Expr} {R : PH → Value → Prop} {P : Sg → AV → Prop} (h : PW G A X.env ρ (eval e X.env) R) (p : ∀ Z v, R Z v → ∃ x, VR Z x v ∧ P σ x) : EJ G A X ρ σ (eval e X.env) P := fun W Z s E z0 st =>
  wpAny_mono (h Z s E z0 st.z st.fm) (fun v s' q => by
    obtain ⟨k, Z', g, r⟩ := q
    obtain ⟨x, r, p⟩ := p Z' v r
    exact ⟨.ofKeeps k, Z', σ, x, g.sub, st.grow (kk k) g, r, p⟩) fun _ _ e => e
theorem EJ_view {e : Expr} {x : AV} {P : Sg → AV → Prop} {ρ' : Vars} (v : ViewOk ρ σ ρ') (h : PE G A X.env ρ' e x) (f : flatAV x = true) (p : P σ x) : EJ G A X ρ σ (eval e X.env) P := fun W Z s E z0 st => by
  obtain ⟨h1, h2, h3⟩ := Zv.fm st v
  refine wpAny_mono (h _ s E ⟨z0.sub.trans h1, z0.tok⟩ h2 h3) (fun v s' q => ?_) fun _ _ e => e
  obtain ⟨k, Z', g, r⟩ := q
  exact ⟨.ofKeeps k, Z, σ, x, PSub.refl Z, st.up (kk k), r.flat f, p⟩
theorem TJ_view {e : Expr} {b : Bool} {ρ' : Vars} (v : ViewOk ρ σ ρ') (h : PT G A X.env ρ' e b) : TJ G A X ρ σ e b := fun W Z s E z0 st => by
  obtain ⟨h1, h2, h3⟩ := Zv.fm st v
  exact wpAny_mono (h _ s E ⟨z0.sub.trans h1, z0.tok⟩ h2 h3) (fun v s' q => ⟨q.2.choose_spec.2, q.1⟩) fun _ _ e => e
theorem TJ_pt {e : Expr} {b : Bool} (h : PT G A X.env ρ e b) : TJ G A X ρ σ e b := TJ_view .refl h

/-- behind a step -/
theorem EJ.seq {t : Sem Value} {P : Sg → AV → Prop} {W Z : PH} {s : Shared} {E : Value → Shared → Prop} {Q : Value → Shared → Prop} (h : EJ G A X ρ σ t P) (z : Bs G Z s) (st : St X W Z ρ σ s.heap)
    (k : ∀ v s1 Z1 σ1 x, Ext s s1 → PSub Z Z1 → Bs G Z1 s1 → St X W Z1 ρ σ1 s1.heap → VR Z1 x v → P σ1 x → Q v s1) : wpAny (model G.prog G.w) A t Q E s :=
  wpAny_mono (wpAny_toks (h W Z s E z st)) (fun v s1 p => by
    obtain ⟨tk, e, Z1, σ1, x, h1, h2, h3, h4⟩ := p
    exact k v s1 Z1 σ1 x e h1 ⟨z.sub.trans h1, Nat.lt_of_lt_of_le z.tok tk⟩ h2 h3 h4) fun _ _ e => e.2
theorem SJ.seq {t : Sem Flow} {P : Out → Prop} {W Z : PH} {s : Shared} {E : Value → Shared → Prop} {Q : Flow → Shared → Prop} (h : SJ G A X ρ σ t P) (z : Bs G Z s) (st : St X W Z ρ σ s.heap)
    (k : ∀ fl s1 Z1 out, Ext s s1 → PSub Z Z1 → Bs G Z1 s1 → OutR X W Z1 s1.heap fl out → P out → Q fl s1) : wpAny (model G.prog G.w) A t Q E s :=
  wpAny_mono (wpAny_toks (h W Z s E z st)) (fun v s1 p => by
    obtain ⟨tk, e, Z1, out, h1, h2, h3⟩ := p
    exact k v s1 Z1 out e h1 ⟨z.sub.trans h1, Nat.lt_of_lt_of_le z.tok tk⟩ h2 h3) fun _ _ e => e.2
theorem SJ.mono {t : Sem Flow} {P P' : Out → Prop} (h : SJ G A X ρ σ t P) (k : ∀ o, P o → P' o) : SJ G A X ρ σ t P' := fun W Z s E z st =>
  wpAny_mono (h W Z s E z st) (fun fl s' p => let ⟨e, Z', out, h1, h2, h3⟩ := p; ⟨e, Z', out, h1, h2, k _ h3⟩) fun _ _ e => e
theorem EJ.mono {t : Sem Value} {P P' : Sg → AV → Prop} (h : EJ G A X ρ σ t P) (k : ∀ σ x, P σ x → P' σ x) : EJ G A X ρ σ t P' := fun W Z s E z st =>
  wpAny_mono (h W Z s E z st) (fun fl s' p => let ⟨e, Z', σ', x, h1, h2, h3, h4⟩ := p; ⟨e, Z', σ', x, h1, h2, h3, k _ _ h4⟩) fun _ _ e => e

/-- a state of less -/
theorem St.less {W Z : PH} {h : Heap} (x : St X W Z ρ σ h) {ρ' : Vars} (k : ∀ y v, ρ'.lookup y = some v → ρ.lookup y = some v) : St X W Z ρ' σ h :=
  { x with vars := let ⟨m, hm, hv⟩ := x.vars; ⟨m, hm, fun y v e => hv y v (k y v e)⟩ }
theorem SJ.less {t : Sem Flow} {ρ' : Vars} (h : SJ G A X ρ' σ t Post) (k : ∀ y v, ρ'.lookup y = some v → ρ.lookup y = some v) : SJ G A X ρ σ t Post := fun W Z s E z st => h W Z s E z (st.less k)

theorem S_nil (h : Post (.next ρ σ)) : SJ G A X ρ σ (execs [] X.env) Post := fun W Z s E z st =>
  wpAny_execs_nil ⟨.refl s, Z, _, PSub.refl Z, .next st, h⟩
def thenP (G : Gl) (A : Around) (X : Fx) (rest : List Stmt) (Post : Out → Prop) : Out → Prop
  | .next ρ σ => SJ G A X ρ σ (execs rest X.env) Post
  | o => Post o
theorem S_cons {c : Stmt} {rest : List Stmt} (h : SJ G A X ρ σ (exec c X.env) (thenP G A X rest Post)) : SJ G A X ρ σ (execs (c :: rest) X.env) Post := fun W Z s E z st =>
  wpAny_execs_cons (h.seq z st fun fl s1 Z1 out e1 k1 z1 o p => by
    cases o with
    | next st1 => exact wpAny_mono (p W Z1 s1 E z1 st1) (fun fl s2 q => q.trans e1 k1) fun _ _ e => e
    | brk st1 => exact ⟨e1, Z1, _, k1, .brk st1, p⟩
    | cont st1 => exact ⟨e1, Z1, _, k1, .cont st1, p⟩
    | ret st1 r => exact ⟨e1, Z1, _, k1, .ret st1 r, p⟩)

theorem S_ret {e : Expr} {pos : Pos} (h : EJ G A X ρ σ (eval e X.env) fun σ' x => Post (.ret x σ')) : SJ G A X ρ σ (exec (.Return (some e) pos) X.env) Post := fun W Z s E z st =>
  wpAny_Return_some (h.seq z st fun v s1 Z1 σ1 x e1 k1 z1 st1 r p => ⟨e1, Z1, _, k1, .ret (st1.less fun _ _ e => by cases e) r, p⟩)

theorem S_if {e : Expr} {body orelse : List Stmt} {pos : Pos} {b : Bool} (ht : TJ G A X ρ σ e b) (h1 : b = true → SJ G A X ρ σ (execs body X.env) Post) (h2 : b = false → SJ G A X ρ σ (execs orelse X.env) Post) :
    SJ G A X ρ σ (exec (.If e body orelse pos) X.env) Post := fun W Z s E z st =>
  wpAny_If (wpAny_mono (wpAny_toks (ht W Z s E z st)) (fun c s1 q => by
    obtain ⟨tk, rfl, k⟩ := q
    have z1 : Bs G Z s1 := ⟨z.sub, Nat.lt_of_lt_of_le z.tok tk⟩
    have st1 := st.up (kk k)
    cases c with
    | true => exact wpAny_mono (h1 rfl W Z s1 E z1 st1) (fun fl s2 q => q.trans (.ofKeeps k) (PSub.refl Z)) fun _ _ e => e
    | false => exact wpAny_mono (h2 rfl W Z s1 E z1 st1) (fun fl s2 q => q.trans (.ofKeeps k) (PSub.refl Z)) fun _ _ e => e) fun _ _ e => e.2)

/-- where a name lies -/
inductive Sto (X : Fx) (x : Str) : Prop
  | loc : X.env.kindOf x = some .local → Sto X x
  | cell : X.env.kindOf x = some .cell → x ∈ X.mc → Sto X x
theorem store_name {x : Str} {v : AV} {w : Value} {W Z : PH} {s : Shared} {E : Value → Shared → Prop} {Q : Unit → Shared → Prop} (hx : Sto X x) (st : St X W Z ρ σ s.heap) (r : VR Z v w)
    (k : ∀ h' tk, s.toks ≤ tk → St X W Z (setV ρ x v) σ h' → Q () { s with heap := h', toks := tk }) : wpAny (model G.prog G.w) A (storeName X.env x w) Q E s := by
  cases hx with
  | loc hl =>
    obtain ⟨m, hm, hv⟩ := st.vars
    exact wpAny_storeName_local hl hm (fun h' hn hs => k h' _ (Nat.le_succ _) (st.setLocal (m' := m) hl hm hv hn hs r)) (by rw [st.kind]; rfl)
  | cell hl hm =>
    obtain ⟨c, v0, h1, h2, h3⟩ := st.cells x hm
    exact wpAny_storeName_cell st.kind hl h2 h3 fun h' hn hs => k h' _ (Nat.le_refl _) (st.setCell hm h2 hl hn hs r)

theorem S_assign {x : Str} {px pos : Pos} {e : Expr} (hx : Sto X x) (h : EJ G A X ρ σ (eval e X.env) fun σ' v => Post (.next (setV ρ x v) σ'))
    (hs : swapsWith e (some (.Name x px)) pos.line X.env = pure false := by rfl) : SJ G A X ρ σ (exec (.Assign [.Name x px] e pos) X.env) Post := fun W Z s E z st =>
  wpAny_Assign_Name (h.seq z st fun v s1 Z1 σ1 y e1 k1 z1 st1 r p =>
    store_name hx st1 r fun h' tk _ st2 => ⟨e1.trans ⟨h', tk, rfl⟩, Z1, _, k1, .next st2, p⟩) hs
end
end PL

namespace PL
section
variable {G : Gl} {A : Around} {X : Fx} {ρ : Vars} {σ : Sg} {Post : Out → Prop}

/-! targets -/
def TgtOk (G : Gl) (A : Around) (X : Fx) (t : Expr) (x : AV) (f : Vars → Vars) : Prop :=
  ∀ (W Z : PH) (s : Shared) (E : Value → Shared → Prop) (Q : Unit → Shared → Prop) (ρ : Vars) (σ : Sg) (v : Value), St X W Z ρ σ s.heap → VR Z x v →
    (∀ h' tk, s.toks ≤ tk → St X W Z (f ρ) σ h' → Q () { s with heap := h', toks := tk }) → wpAny (model G.prog G.w) A (assign t X.env v) Q E s

theorem tgt_name {x : Str} {px : Pos} {v : AV} (hx : Sto X x) : TgtOk G A X (.Name x px) v fun ρ => setV ρ x v := fun W Z s E Q ρ σ w st r k =>
  wpAny_assign_Name (store_name hx st r k)

inductive Names (X : Fx) : List Expr → List Str → Prop
  | nil : Names X [] []
  | cons {x : Str} {p : Pos} {es : List Expr} {xs : List Str} : Sto X x → Names X es xs → Names X (.Name x p :: es) (x :: xs)
def setVs : Vars → List Str → List AV → Vars
  | ρ, x :: xs, v :: vs => setVs (setV ρ x v) xs vs
  | ρ, _, _ => ρ
theorem Names.each {es : List Expr} {xs : List Str} (n : Names X es xs) : (assignEach es X.env).length = xs.length ∧ (assignEach es X.env).findIdx? (·.1) = none := by
  induction n with
  | nil => exact ⟨rfl, rfl⟩
  | cons hx _ ih =>
    rename_i x p es xs _
    have e : assignEach (.Name x p :: es) X.env = (false, assign (.Name x p) X.env) :: assignEach es X.env := rfl
    rw [e]
    refine ⟨by rw [List.length_cons, List.length_cons, ih.1], ?_⟩
    rw [List.findIdx?_cons]
    simp [ih.2]
theorem Names.go {es : List Expr} {xs : List Str} (n : Names X es xs) : ∀ (W Z : PH) (s : Shared) (E : Value → Shared → Prop) (Q : Unit → Shared → Prop) (ρ : Vars) (σ : Sg) (us : List AV) (vs : List Value), St X W Z ρ σ s.heap → VRs Z us vs → us.length = xs.length →
    (∀ h' tk, s.toks ≤ tk → St X W Z (setVs ρ xs us) σ h' → Q () { s with heap := h', toks := tk }) → wpAny (model G.prog G.w) A (assignInOrder ((assignEach es X.env).map (·.2)) vs) Q E s := by
  induction n with
  | nil =>
    intro W Z s E Q ρ σ us vs st r hl k
    have : us = [] := List.eq_nil_of_length_eq_zero hl
    subst this
    cases r
    exact assignInOrder_nil (k s.heap s.toks (Nat.le_refl _) st)
  | cons hx _ ih =>
    intro W Z s E Q ρ σ us vs st r hl k
    rename_i x p es xs _
    cases r with
    | nil => simp at hl
    | cons r rs =>
      have e : assignEach (.Name x p :: es) X.env = (false, assign (.Name x p) X.env) :: assignEach es X.env := rfl
      rw [e, List.map_cons]
      refine assignInOrder_cons (wpAny_assign_Name (store_name hx st r fun h' tk ht st' => ?_))
      exact ih W Z _ E Q _ σ _ _ st' rs (by simpa using hl) fun h'' tk' ht' st'' => k h'' tk' (Nat.le_trans ht ht') st''
theorem assign_names {es : List Expr} {k : Nat} {p : Pos} {xs : List Str} {us : List AV} (n : Names X es xs) (hl : us.length = xs.length) (hh : A.handled = none) : TgtOk G A X (.Tuple es k p) (.tup us) fun ρ => setVs ρ xs us := fun W Z s E Q ρ σ w st r kk => by
  obtain ⟨a, vs, m, rfl, e, rs⟩ := r.tupInv
  have ht : IsTup s.heap a vs := ⟨_, st.z _ _ e, rfl, m, rfl⟩
  have h1 := rs.length
  rw [Array.length_toList] at h1
  refine assign_Tuple_tuple hh ht (by rw [n.each.1, h1, hl]) n.each.2 fun h' he => ?_
  exact n.go W Z _ E Q ρ σ us _ (st.up fun b o e => he b o (Nat.ne_of_lt (Heap.lt_size e)) e) rs hl kk

theorem S_unpack {es : List Expr} {k : Nat} {tp pos : Pos} {e : Expr} {xs : List Str} (n : Names X es xs) (hh : A.handled = none) (h : EJ G A X ρ σ (eval e X.env) fun σ' v => ∃ us, v = .tup us ∧ us.length = xs.length ∧ Post (.next (setVs ρ xs us) σ'))
    (hs : swapsWithSole [.Tuple es k tp] e pos.line X.env = pure false := by rfl) (hw : swappedStores [.Tuple es k tp] e X.env = pure none := by rfl) :
    SJ G A X ρ σ (exec (.Assign [.Tuple es k tp] e pos) X.env) Post := fun W Z s E z st =>
  Assign_Tuple (h.seq z st fun v s1 Z1 σ1 y e1 k1 z1 st1 r p => by
    obtain ⟨us, rfl, hl, hp⟩ := p
    exact assign_names n hl hh W Z1 s1 E _ ρ σ1 v st1 r fun h' tk _ st2 => ⟨e1.trans ⟨h', tk, rfl⟩, Z1, _, k1, .next st2, hp⟩) hs hw

/-! the frame's own lists -/
theorem upd_list {h : Heap} {a : Addr} {vs : Array Value} {n : Nat} (e : h.get? a = some (listO vs n)) (f : Array Value → Array Value) : ∃ n', (h.update a (Obj.mapSeq f)).get? a = some (listO (f vs) n') :=
  ⟨_, PySem.IsL.update e f⟩

theorem meth_own {W Z : PH} {a : Addr} {xs : List AV} {s : Shared} {E : Value → Shared → Prop} {pl : Sem Bool} {Q : Value × List Value → Shared → Prop} {name : Str} {id : String} (st : St X W Z ρ σ s.heap) (hm : (a, xs) ∈ σ) (slot : Slot "list" name id) (hty : typeOf (.builtin id) = pure (.type "method_descriptor"))
    (h : Q (.builtin id, [.ref a]) s) : wpAny (model G.prog G.w) A (getMethod (.ref a) name pl) Q E s := by
  obtain ⟨vs, n, e, _⟩ := st.own _ hm
  exact getMethod_builtin ⟨_, e, rfl⟩ PySem.F.plainAttrs_list slot hty (fun a' e' => by cases e'; exact ⟨_, e, rfl⟩) h

theorem S_append {l : Str} {lp apos cp pos : Pos} {arg : Expr} {a : Addr} {xs0 : List AV} {pl : Sem Bool} (hl : ρ.lookup l = some (.ref a)) (hm : (a, xs0) ∈ σ)
    (ha : EJ G A X ρ σ (eval arg X.env) fun σ1 v => ∃ xs σ2, PutL a xs (xs ++ [v]) σ1 σ2 ∧ xs.length ≤ 1000000 ∧ Post (.next ρ σ2))
    (hs : starEach [arg] X.env = [(false, eval arg X.env)] := by rfl) (hi : interactive X.env = false := by rfl) (hw : swapsWith (.Call (.Attribute (.Name l lp) "append" apos) [arg] [] cp) none pos.line X.env = pure false := by rfl)
    (he : eval (.Call (.Attribute (.Name l lp) "append" apos) [arg] [] cp) X.env = (do
      let ov ← eval (.Name l lp) X.env
      standAt apos.atName
      let (f, first) ← holding [ov] (getMethod ov "append" pl)
      callWith cp f first (backTo cp (starEach [arg] X.env)) []) := by rfl) (hd : (l == ("__debug__" : Str)) = false := by decide) (hc : (l == ("__classdict__" : Str)) = false := by decide) :
    SJ G A X ρ σ (exec (.Expr (.Call (.Attribute (.Name l lp) "append" apos) [arg] [] cp) pos) X.env) Post := fun W Z s E z st =>
  wpAny_Expr (MethodCall_ ((PE_name (G := G) (A := A) (env := X.env) (pos := lp) hl hd hc).seq z st.z st.fm fun v s1 Z1 k1 g1 r1 z1 f1 => by
    cases r1.refInv
    have st1 := st.grow (kk k1) g1
    refine meth_own st1 hm slot_list_append type_list_append ?_
    have e2 : backTo cp (starEach [arg] X.env) = [(false, eval arg X.env)] := by rw [hs]; rfl
    show wpAny _ _ (callWith cp (.builtin "list.append") [.ref a] (backTo cp (starEach [arg] X.env)) []) _ _ _
    rw [e2]
    refine P.append_list (ha.seq z1 st1 fun u s2 Z2 σ2 y e2 k2 z2 st2 r2 p => ?_)
    obtain ⟨xs, σ3, hput, hlen, hp⟩ := p
    obtain ⟨vs, n, e3, r3⟩ := st2.own _ hput.mem
    have hsz : vs.size = xs.length := by have := r3.length; rwa [Array.length_toList] at this
    refine ⟨vs, n, by rw [hsz, sizeLine_eq]; omega, e3, ?_⟩
    obtain ⟨n', e4⟩ := upd_list e3 (·.push u)
    exact ⟨((Ext.ofKeeps k1).trans e2).trans ⟨_, _, rfl⟩, Z2, _, g1.sub.trans k2, .next (st2.setList hput e4 (Heap.SameBut.update ..) (by rw [Array.toList_push]; exact r3.append (.cons r2 .nil))), hp⟩) he) hi hw

theorem S_extend {l : Str} {lp apos cp pos : Pos} {arg : Expr} {a : Addr} {xs0 : List AV} {pl : Sem Bool} (hl : ρ.lookup l = some (.ref a)) (hm : (a, xs0) ∈ σ)
    (ha : EJ G A X ρ σ (eval arg X.env) fun σ1 v => ∃ xs ys σ2, v = .list ys ∧ PutL a xs (xs ++ ys) σ1 σ2 ∧ xs.length ≤ 1000000 ∧ ys.length ≤ 1000000 ∧ Post (.next ρ σ2))
    (hs : starEach [arg] X.env = [(false, eval arg X.env)] := by rfl) (hi : interactive X.env = false := by rfl) (hw : swapsWith (.Call (.Attribute (.Name l lp) "extend" apos) [arg] [] cp) none pos.line X.env = pure false := by rfl)
    (he : eval (.Call (.Attribute (.Name l lp) "extend" apos) [arg] [] cp) X.env = (do
      let ov ← eval (.Name l lp) X.env
      standAt apos.atName
      let (f, first) ← holding [ov] (getMethod ov "extend" pl)
      callWith cp f first (backTo cp (starEach [arg] X.env)) []) := by rfl) (hd : (l == ("__debug__" : Str)) = false := by decide) (hc : (l == ("__classdict__" : Str)) = false := by decide) :
    SJ G A X ρ σ (exec (.Expr (.Call (.Attribute (.Name l lp) "extend" apos) [arg] [] cp) pos) X.env) Post := fun W Z s E z st =>
  wpAny_Expr (MethodCall_ ((PE_name (G := G) (A := A) (env := X.env) (pos := lp) hl hd hc).seq z st.z st.fm fun v s1 Z1 k1 g1 r1 z1 f1 => by
    cases r1.refInv
    have st1 := st.grow (kk k1) g1
    refine meth_own st1 hm PySem.F.slot_list_extend PySem.F.type_list_extend ?_
    have e2 : backTo cp (starEach [arg] X.env) = [(false, eval arg X.env)] := by rw [hs]; rfl
    show wpAny _ _ (callWith cp (.builtin "list.extend") [.ref a] (backTo cp (starEach [arg] X.env)) []) _ _ _
    rw [e2]
    refine P.extend_list (ha.seq z1 st1 fun u s2 Z2 σ2 y e2 k2 z2 st2 r2 p => ?_)
    obtain ⟨xs, ys, σ3, rfl, hput, hlen, hlen2, hp⟩ := p
    obtain ⟨vs, n, e3, r3⟩ := st2.own _ hput.mem
    obtain ⟨b, us, m, rfl, e4, r4⟩ := r2.listInv
    have hsz : vs.size = xs.length := by have := r3.length; rwa [Array.length_toList] at this
    have hsz2 : us.size = ys.length := by have := r4.length; rwa [Array.length_toList] at this
    refine ⟨b, vs, us, n, m, by rw [hsz, sizeLine_eq]; omega, by rw [hsz, hsz2, sizeLine_eq]; omega, ?_, rfl, e3, st2.z _ _ e4, ?_⟩
    · rw [hsz, hsz2]
      have : Builtin.List.listTooLong (xs.length + ys.length) = false := by unfold Builtin.List.listTooLong; exact decide_eq_false (by rw [sizeLine_eq]; omega)
      rw [this]; simp
    · obtain ⟨n', e5⟩ := upd_list e3 (· ++ us)
      exact ⟨((Ext.ofKeeps k1).trans e2).trans ⟨_, _, rfl⟩, Z2, _, g1.sub.trans k2, .next (st2.setList hput e5 (Heap.SameBut.update ..) (by rw [Array.toList_append]; exact r3.append r4)), hp⟩) he) hi hw
end
end PL

namespace PL
section
variable {G : Gl} {A : Around} {X : Fx} {ρ : Vars} {σ : Sg} {Post : Out → Prop}

theorem E_pop {l : Str} {lp apos cp : Pos} {a : Addr} {xs : List AV} {x : AV} {σ' : Sg} {P : Sg → AV → Prop} {pl : Sem Bool} (hl : ρ.lookup l = some (.ref a)) (hput : PutL a (xs ++ [x]) xs σ σ') (hlen : xs.length ≤ 1000000) (hp : P σ' x)
    (he : eval (.Call (.Attribute (.Name l lp) "pop" apos) [] [] cp) X.env = (do
      let ov ← eval (.Name l lp) X.env
      standAt apos.atName
      let (f, first) ← holding [ov] (getMethod ov "pop" pl)
      callWith cp f first (backTo cp (starEach [] X.env)) []) := by rfl) (hd : (l == ("__debug__" : Str)) = false := by decide) (hc : (l == ("__classdict__" : Str)) = false := by decide) :
    EJ G A X ρ σ (eval (.Call (.Attribute (.Name l lp) "pop" apos) [] [] cp) X.env) P := fun W Z s E z st =>
  MethodCall_ ((PE_name (G := G) (A := A) (env := X.env) (pos := lp) hl hd hc).seq z st.z st.fm fun v s1 Z1 k1 g1 r1 z1 f1 => by
    cases r1.refInv
    have st1 := st.grow (kk k1) g1
    refine meth_own st1 hput.mem PySem.F.slot_list_pop PySem.F.type_list_pop ?_
    obtain ⟨vs, n, e3, r3⟩ := st1.own _ hput.mem
    have hsz : vs.size = xs.length + 1 := by have := r3.length; rw [Array.length_toList] at this; simpa using this
    have hlt : xs.length < vs.size := by omega
    have hy : vs[vs.size - 1]? = some vs[xs.length] := by
      rw [show vs.size - 1 = xs.length by omega]; simp [hlt]
    have hr : VR Z1 x vs[xs.length] := r3.get xs.length x _ (by simp) (by simp [hlt])
    refine PySem.P.pop_list e3 hy ?_ (by rw [hsz, sizeLine_eq]; omega)
    obtain ⟨n', e4⟩ := upd_list e3 (fun ys => ys.eraseIdxIfInBounds (vs.size - 1))
    refine ⟨(Ext.ofKeeps k1).trans ⟨_, _, rfl⟩, Z1, σ', x, g1.sub, st1.setList hput e4 (Heap.SameBut.update ..) ?_, hr, hp⟩
    refine VRs.of ?_ fun i y u ey eu => r3.get i y u (by rw [List.getElem?_append_left (by exact (List.getElem?_eq_some_iff.mp ey).1)]; exact ey) ?_
    · have : (vs.eraseIdxIfInBounds (vs.size - 1)).size = vs.size - 1 := by
        unfold Array.eraseIdxIfInBounds
        rw [dif_pos (by omega), Array.size_eraseIdx]
      rw [Array.length_toList, this]; omega
    · have hi : i < xs.length := (List.getElem?_eq_some_iff.mp ey).1
      unfold Array.eraseIdxIfInBounds at eu
      rw [dif_pos (by omega)] at eu
      rw [Array.getElem?_toList, Array.getElem?_eraseIdx] at eu
      rw [if_pos (by omega)] at eu
      rw [Array.getElem?_toList]; exact eu) he

theorem S_setitem {l : Str} {lp ip pos : Pos} {ie e : Expr} {a : Addr} (hl : ρ.lookup l = some (.ref a)) (h : EJ G A X ρ σ (eval e X.env) fun σ1 v => ∃ k xs σ2, EJ G A X ρ σ1 (eval ie X.env) (fun σ' i => σ' = σ1 ∧ i = .int k) ∧
      0 ≤ k ∧ k < 2 ^ 63 ∧ k < xs.length ∧ PutL a xs (xs.set k.toNat v) σ1 σ2 ∧ Post (.next ρ σ2))
    (hs : swapsWith e (some (.Subscript (.Name l lp) ie ip)) pos.line X.env = pure false := by rfl) (hd : (l == ("__debug__" : Str)) = false := by decide) (hc : (l == ("__classdict__" : Str)) = false := by decide) :
    SJ G A X ρ σ (exec (.Assign [.Subscript (.Name l lp) ie ip] e pos) X.env) Post := fun W Z s E z st =>
  wpAny_Assign_Subscript (h.seq z st fun v s1 Z1 σ1 y e1 k1 z1 st1 r1 p => (PE_name (G := G) (A := A) (env := X.env) (pos := lp) hl hd hc).seq z1 st1.z st1.fm fun v2 s2 Z2 k2 g2 r2 z2 f2 => by
    obtain ⟨k, xs, σ2, hi, h0, h1, hlt, hput, hp⟩ := p
    have st2 := st1.grow (kk k2) g2
    refine hi.seq z2 st2 fun v3 s3 Z3 σ3 x3 e3 k3 z3 st3 r3 p3 => ?_
    obtain ⟨rfl, rfl⟩ := p3
    cases r2.refInv
    obtain ⟨u, rfl⟩ := r3.intInv
    obtain ⟨vs, n, e4, r4⟩ := st3.own _ hput.mem
    have hsz : vs.size = xs.length := by have := r4.length; rwa [Array.length_toList] at this
    obtain ⟨n', e5⟩ := upd_list e4 (fun ys => ys.setIfInBounds k.toNat v)
    refine ki_setAt e4 h0 h1 (by rw [hsz]; exact hlt) ⟨((e1.trans (.ofKeeps k2)).trans e3).trans ⟨_, _, rfl⟩, Z3, _, (k1.trans g2.sub).trans k3, .next (st3.setList hput e5 (Heap.SameBut.update ..) ?_), hp⟩
    refine VRs.of (by simp [hsz]) fun i x w ex ew => ?_
    rw [Array.getElem?_toList, Array.getElem?_setIfInBounds] at ew
    rw [List.getElem?_set] at ex
    by_cases q : k.toNat = i
    · rw [if_pos q] at ew ex
      rw [if_pos (by omega)] at ew
      rw [if_pos (by omega)] at ex
      cases ew; cases ex
      exact (r1.mono g2.sub).mono k3
    · rw [if_neg q] at ew ex
      exact r4.get i x w ex (by simpa using ew)) hs

/-- a name for a new list of the frame's own -/
theorem S_newlist {x : Str} {px lp pos : Pos} {es : List Expr} {xs : List AV} (hx : Sto X x) (h : PS G A X.env ρ es xs) (b : xs.length ≤ 1000000) (k : ∀ a, Post (.next (setV ρ x (.ref a)) ((a, xs) :: σ)))
    (hs : swapsWith (.List es lp) (some (.Name x px)) pos.line X.env = pure false := by rfl) : SJ G A X ρ σ (exec (.Assign [.Name x px] (.List es lp) pos) X.env) Post := fun W Z s E z st =>
  wpAny_Assign_Name (wpAny_List ((h lp).seq z st.z st.fm fun vs s1 Z1 k1 g1 r1 z1 f1 => ⟨by rw [r1.length, sizeLine_eq]; omega, by
    have st1 := st.grow (kk k1) g1
    have kp : ∀ b o, s1.heap.get? b = some o → (s1.heap.push (listO vs.toArray 0)).get? b = some o := fun _ _ e => Heap.get?_push_of_some _ e
    have st2 : St X W Z1 ρ ((s1.heap.objs.size, xs) :: σ) (s1.heap.push (listO vs.toArray 0)) := st1.newList (vs := vs.toArray) (n := 0) kp (Heap.get?_push_size _ rfl) (none_ge (Nat.le_refl _)) (by simpa using r1)
    exact store_name (s := { s1 with heap := s1.heap.push (listO vs.toArray 0) }) hx st2 (.ref (a := s1.heap.objs.size)) fun h' tk _ st3 => ⟨(Ext.ofKeeps k1).trans ⟨h', tk, rfl⟩, Z1, _, g1.sub, .next st3, k _⟩⟩)) hs

/-! loops -/
theorem A_mark (A : Around) : A.mark none = A := by cases A; rfl

theorem S_while {test : Expr} {body : List Stmt} {pos : Pos} (Inv : Nat → Vars → Sg → Prop) (n : Nat) (h0 : Inv n ρ σ)
    (turn : ∀ n ρ1 σ1, Inv n ρ1 σ1 → ∃ b, TJ G A X ρ1 σ1 test b ∧ (b = true → SJ G A X ρ1 σ1 (execs body X.env) fun o => match o with
        | .next ρ2 σ2 => ∃ m, m < n ∧ Inv m ρ2 σ2
        | .cont ρ2 σ2 => ∃ m, m < n ∧ Inv m ρ2 σ2
        | .brk ρ2 σ2 => Post (.next ρ2 σ2)
        | .ret x σ2 => Post (.ret x σ2)) ∧ (b = false → Post (.next ρ1 σ1))) :
    SJ G A X ρ σ (exec (.While test body [] pos) X.env) Post := fun W Z s E z st => by
  refine wpAny_While ?_
  refine codeAny_whileLoop (fun n s' => Ext s s' ∧ ∃ Z' ρ1 σ1, PSub Z Z' ∧ Bs G Z' s' ∧ St X W Z' ρ1 σ1 s'.heap ∧ Inv n ρ1 σ1) ?_ n ⟨.refl s, Z, ρ, σ, PSub.refl Z, z, st, h0⟩
  rintro n s1 ⟨e1, Z1, ρ1, σ1, k1, z1, st1, hI⟩
  obtain ⟨b, ht, hb, hf⟩ := turn n ρ1 σ1 hI
  refine wpAny_mono (wpAny_toks (ht W Z1 s1 _ z1 st1)) (fun c s2 q => ?_) fun _ _ e => e.2
  obtain ⟨tk, rfl, k2⟩ := q
  have z2 : Bs G Z1 s2 := ⟨z1.sub, Nat.lt_of_lt_of_le z1.tok tk⟩
  have st2 := st1.up (kk k2)
  cases c with
  | false =>
    exact wpAny_execs_nil ⟨e1.trans (.ofKeeps k2), Z1, _, k1, .next st2, hf rfl⟩
  | true =>
    refine (hb rfl).seq z2 st2 fun fl s3 Z3 out e3 k3 z3 o p => ?_
    have ee := (e1.trans (.ofKeeps k2)).trans e3
    cases o with
    | next st3 => obtain ⟨m, hm, hI⟩ := p; exact ⟨m, hm, ee, Z3, _, _, k1.trans k3, z3, st3, hI⟩
    | cont st3 => obtain ⟨m, hm, hI⟩ := p; exact ⟨m, hm, ee, Z3, _, _, k1.trans k3, z3, st3, hI⟩
    | brk st3 => exact ⟨ee, Z3, _, k1.trans k3, .next st3, p⟩
    | ret st3 r => exact ⟨ee, Z3, _, k1.trans k3, .ret st3 r, p⟩

theorem Own.out {W Z : PH} {h : Heap} (st : St X W Z ρ σ h) {I : Addr} {o : Obj} (ho : h.get? I = some o) (hZ : Z I = none) (hI : ¬ Own X σ I) : St X (Zp W I o) Z ρ σ h := by
  have far : ∀ b, b ≠ I → Zp W I o b = W b := fun b q => by unfold Zp; rw [if_neg q]
  refine { st with w := fun b o' q => ?_, zw := fun b o' q => ?_, off := fun b ob => ?_ }
  · by_cases r : b = I
    · subst r; rw [Zp.self] at q; cases q; exact ho
    · rw [far b r] at q; exact st.w b o' q
  · by_cases r : b = I
    · subst r; rw [hZ] at q; cases q
    · rw [far b r]; exact st.zw b o' q
  · have := st.off b ob
    exact ⟨this.1, by rw [far b (fun r => hI (r ▸ ob))]; exact this.2⟩
/-- what is framed may be let go -/
theorem St.unframe {W Z : PH} {h : Heap} {I : Addr} {o : Obj} (st : St X (Zp W I o) Z ρ σ h) (hW : W I = none) : St X W Z ρ σ h := by
  have sub : ∀ b o', W b = some o' → Zp W I o b = some o' := fun b o' q => by
    unfold Zp
    by_cases r : b = I
    · subst r; rw [hW] at q; cases q
    · rw [if_neg r]; exact q
  refine { st with w := fun b o' q => st.w b o' (sub b o' q), zw := fun b o' q => ?_, off := fun b ob => ⟨(st.off b ob).1, ?_⟩ }
  · cases r : W b with
    | none => rfl
    | some o'' => have := st.zw b o' q; rw [sub b o'' r] at this; cases this
  · cases r : W b with
    | none => rfl
    | some o'' => have := (st.off b ob).2; rw [sub b o'' r] at this; cases this
end
end PL

namespace PL
section
variable {G : Gl} {A : Around} {X : Fx} {ρ : Vars} {σ : Sg} {Post : Out → Prop}

theorem St.moved {W Z : PH} {h h' : Heap} (st : St X W Z ρ σ h) {I : Addr} (hZ : Z I = none) (hW : W I = none) (hO : ¬ Own X σ I) (hi : ∃ o, h.get? I = some o ∧ ∀ v, o.data ≠ .cell v)
    (up : ∀ b o', b ≠ I → h.get? b = some o' → h'.get? b = some o') : St X W Z ρ σ h' := by
  obtain ⟨m, hm, hv⟩ := st.vars
  have nI : ∀ {a : Addr}, Own X σ a → a ≠ I := fun ow q => hO (q ▸ ow)
  refine { st with z := fun b o' e => up b o' (fun q => by rw [q, hZ] at e; cases e) (st.z b o' e), w := fun b o' e => up b o' (fun q => by rw [q, hW] at e; cases e) (st.w b o' e),
                   vars := ⟨m, ?_, fun y u e => ?_⟩, own := fun p hp => ?_, cells := fun y hy => ?_, tab := fun q hq => ?_ }
  · obtain ⟨ol, es, ep, e, rr⟩ := hm
    exact ⟨ol, es, ep, up _ _ (nI .loc) e, rr⟩
  · obtain ⟨w, hw, r⟩ := hv y u e
    refine ⟨w, hw, ?_⟩
    rcases r with r | ⟨r1, c, r2, ob, r3, r4⟩
    · exact .inl r
    · refine .inr ⟨r1, c, r2, ob, ?_, r4⟩
      refine up _ _ (fun q => ?_) r3
      obtain ⟨o, e2, d⟩ := hi
      subst q
      rw [r3] at e2; cases e2
      exact d _ r4
  · obtain ⟨vs, n, e, r⟩ := st.own p hp
    exact ⟨vs, n, up _ _ (nI (.lst hp)) e, r⟩
  · obtain ⟨c, v, h1, h2, ob, h4, h5⟩ := st.cells y hy
    exact ⟨c, v, h1, h2, ob, up _ _ (nI (.cell hy h2)) h4, h5⟩
  · obtain ⟨ps, e, r⟩ := st.tab q hq
    exact ⟨ps, up _ _ (nI (.tab hq)) e, r⟩

def loopP (Inv : Nat → Vars → Sg → Prop) (Post : Out → Prop) (i : Nat) : Out → Prop
  | .next ρ2 σ2 => Inv (i + 1) ρ2 σ2
  | .cont ρ2 σ2 => Inv (i + 1) ρ2 σ2
  | .brk ρ2 σ2 => Post (.next ρ2 σ2)
  | .ret x σ2 => Post (.ret x σ2)

theorem S_for {target iter : Expr} {body : List Stmt} {pos : Pos} {src : AV} {items : List AV} (tg : AV → Vars → Vars) (Inv : Nat → Vars → Sg → Prop) (hsrc : PE G A X.env ρ iter src) (hit : IterOk G A src items)
    (htgt : ∀ it, it ∈ items → TgtOk G A X target it (tg it)) (h0 : Inv 0 ρ σ)
    (turn : ∀ i it ρ1 σ1, items[i]? = some it → Inv i ρ1 σ1 → SJ G A X (tg it ρ1) σ1 (execs body X.env) (loopP Inv Post i))
    (done : ∀ ρ1 σ1, Inv items.length ρ1 σ1 → Post (.next ρ1 σ1)) (hs : ∀ x, foldedSetIterable iter X.env x = pure x := by intro _; rfl) :
    SJ G A X ρ σ (exec (.For target iter body [] pos) X.env) Post := fun W Z s E z st => by
  refine wpAny_For (hsrc.seq z st.z st.fm fun v s1 Z1 k1 g1 r1 z1 f1 => hit Z1 s1 E v _ g1.inn r1 fun o fp P Sx Wk hfp hfz hst hlive hlet hP => ?_) hs
  have st1 := st.grow (kk k1) g1
  generalize hI : s1.heap.objs.size = I at *
  have hnone : s1.heap.get? I = none := none_ge (Nat.le_of_eq hI)
  have kp : ∀ b o', s1.heap.get? b = some o' → (s1.heap.push o).get? b = some o' := fun _ _ e => Heap.get?_push_of_some _ e
  have st2 := st1.up kp
  have hZI : Z1 I = none := by
    cases q : Z1 I with
    | none => rfl
    | some o' => rw [g1.inn _ _ q] at hnone; cases hnone
  have hWI : W I = none := by
    cases q : W I with
    | none => rfl
    | some o' => rw [st1.w _ _ q] at hnone; cases hnone
  have hOw : ∀ ρ' σ' Z' (h' : Heap), St X (Zp W I o) Z' ρ' σ' h' → ¬ Own X σ' I := fun ρ' σ' Z' h' sx ow => by
    have := (sx.off _ ow).2
    rw [Zp.self] at this; cases this
  have hOw1 : ¬ Own X σ I := fun ow => by obtain ⟨ob, e⟩ := ow.there st1; rw [e] at hnone; cases hnone
  refine codeAny_forLoop_any (fun n s' => Ext s1 s' ∧ ∃ i Z' ρ1 σ1, PSub Z1 Z' ∧ Z' I = none ∧ ¬ Own X σ1 I ∧ Bs G Z' s' ∧ St X W Z' ρ1 σ1 s'.heap ∧ Sx i s'.heap ∧ i ≤ items.length ∧ Inv i ρ1 σ1 ∧ n = items.length + 1 - i) ?_ (items.length + 1)
    ⟨⟨_, _, rfl⟩, 0, Z1, ρ, σ, PSub.refl Z1, hZI, hOw1, ⟨z1.sub, z1.tok⟩, st2, hst, Nat.zero_le _, h0, rfl⟩
  rintro n s2 ⟨e2, i, Z2, ρ1, σ1, k2, hZ2, hO2, z2, st3, hSx, hi, hInv, rfl⟩
  by_cases hlt : i < items.length
  · refine wpAny_with_toks (n := s2.toks) (Nat.le_refl _) (Wk.item i _ _ _ hlt hSx fun v' h3 tk3 hPv hSx3 hk3 htk3 => ?_)
    obtain ⟨o3, ho3, _⟩ := hlive _ _ hSx3
    have up3 : ∀ b o', b ≠ I → s2.heap.get? b = some o' → h3.get? b = some o' := fun b o' hb e => hk3 b o' (by simpa using hb) e
    -- the state behind the draw, the iterator framed
    have st4 : St X W Z2 ρ1 σ1 h3 := st3.moved hZ2 hWI hO2 (let ⟨o, e, d⟩ := hlive _ _ hSx; ⟨o, e, d⟩) up3
    have st5 : St X (Zp W I o3) Z2 ρ1 σ1 h3 := Own.out st4 ho3 hZ2 hO2
    obtain ⟨it, hit2, hr⟩ := hP i v' hPv
    refine hlet i target v' _ _ _ hPv hSx3 ?_
    refine htgt it (List.mem_of_getElem? hit2) (Zp W I o3) Z2 _ _ _ ρ1 σ1 v' st5 (hr.mono k2) fun h4 tk4 ht4 st6 => ?_
    have z6 : Bs G Z2 { s2 with heap := h4, toks := tk4 } := ⟨z2.sub, Nat.lt_of_lt_of_le z2.tok (Nat.le_trans htk3 ht4)⟩
    refine (turn i it ρ1 σ1 hit2 hInv).seq z6 st6 fun fl s5 Z5 out e5 k5 z5 o5 p5 => ?_
    have ee := (e2.trans ⟨_, _, rfl⟩).trans e5
    have back : ∀ ρ' σ', St X (Zp W I o3) Z5 ρ' σ' s5.heap → St X W Z5 ρ' σ' s5.heap ∧ Z5 I = none ∧ ¬ Own X σ' I ∧ Sx (i + 1) s5.heap := fun ρ' σ' sx => by
      refine ⟨sx.unframe hWI, ?_, fun ow => ?_, ?_⟩
      · cases q : Z5 I with
        | none => rfl
        | some o' => have := sx.zw _ _ q; rw [Zp.self] at this; cases this
      · have := (sx.off _ ow).2
        rw [Zp.self] at this; cases this
      · refine Wk.frame _ _ _ hSx3 fun b hb o' e => ?_
        by_cases q : b = I
        · subst q
          rw [ho3] at e; cases e
          exact sx.w _ _ Zp.self
        · have hz : Z1 b ≠ none := hfz b hb q
          cases q2 : Z1 b with
          | none => exact absurd q2 hz
          | some o2 =>
            have e3 := st5.z _ _ (k2 _ _ q2)
            rw [e] at e3; cases e3
            exact sx.z _ _ (k5 _ _ (k2 _ _ q2))
    cases o5 with
    | next sx => obtain ⟨b1, b2, b3, b4⟩ := back _ _ sx; exact ⟨_, by omega, ee, i + 1, Z5, _, _, k2.trans k5, b2, b3, z5, b1, b4, hlt, p5, rfl⟩
    | cont sx => obtain ⟨b1, b2, b3, b4⟩ := back _ _ sx; exact ⟨_, by omega, ee, i + 1, Z5, _, _, k2.trans k5, b2, b3, z5, b1, b4, hlt, p5, rfl⟩
    | brk sx => obtain ⟨b1, b2, b3, b4⟩ := back _ _ sx; exact ⟨((Ext.ofKeeps k1).trans ee), Z5, _, (g1.sub.trans k2).trans k5, .next b1, p5⟩
    | ret sx r => obtain ⟨b1, b2, b3, b4⟩ := back _ _ sx; exact ⟨((Ext.ofKeeps k1).trans ee), Z5, _, (g1.sub.trans k2).trans k5, .ret b1 r, p5⟩
  · have hin : i = items.length := by omega
    subst hin
    refine Wk.done _ _ _ hSx fun h3 tk3 hk3 => wpAny_execs_nil ?_
    have st4 : St X W Z2 ρ1 σ1 h3 := st3.moved hZ2 hWI hO2 (let ⟨o, e, d⟩ := hlive _ _ hSx; ⟨o, e, d⟩) fun b o' hb e => hk3 b o' (by simpa using hb) e
    exact ⟨(Ext.ofKeeps k1).trans (e2.trans ⟨_, _, rfl⟩), Z2, _, g1.sub.trans k2, .next st4, done _ _ hInv⟩
end
end PL

namespace PL

/-- what stands below: the written part, no limit of its own -/
structure GlOk (G : Gl) (K : Frag) : Prop where
  k : ∀ a o, K.lookup a = some o → G.Z0 a = some o
  nolim : ∃ mc, PNs G.Z0 cStatics mc ∧ mc "sys.recursionlimit" = none

theorem GlOk.kin {G : Gl} {K : Frag} (g : GlOk G K) {Z : PH} {h : Heap} (z : PSub G.Z0 Z) (i : PIn Z h) : K.In h := fun a o e => i _ _ (z _ _ (g.k a o e))
theorem GlOk.lim {G : Gl} {K : Frag} (g : GlOk G K) {Z : PH} {h : Heap} (z : PSub G.Z0 Z) (i : PIn Z h) : h.NoLimit := let ⟨mc, n, e⟩ := g.nolim; ⟨mc, (n.mono z).at i, e⟩

/-- a def of the text, as the written part has it -/
structure FnK (K : Frag) (f : Addr) (qual : Str) (params : Arguments) (body : List Stmt) (scope : Scope) (dV kV cd : Value) : Prop where
  ob : ∃ name doc pm an ct oc od osl, K.lookup f = some ⟨oc, od, .func (fnX name qual params body scope [] dV kV doc pm an cd ct), osl⟩
  code : codeIn K cd qual = true

def bare (qual : Str) (params : Arguments) (body : List Stmt) (scope : Scope) (dV kV cd : Value) : FuncData := fnX "" qual params body scope [] dV kV .none .none none cd .none

theorem binds_same {name qual : Str} {params : Arguments} {body : List Stmt} {scope : Scope} {dV kV doc pm cd ct : Value} {an : Option Addr} {args : Args} :
    bindArgs (fnX name qual params body scope [] dV kV doc pm an cd ct) args = bindArgs (bare qual params body scope dV kV cd) args := rfl

def retP (P : AV → Prop) : Out → Prop
  | .ret x _ => P x
  | .next _ _ => P .none
  | _ => False

/-- the words of the parameters -/
def BindsR (Z : PH) (binds : List (Str × Value)) (ρ0 : Vars) : Prop := ∀ y u, ρ0.lookup y = some u → ∃ w, binds.reverse.lookup y = some w ∧ VR Z u w

section
variable {G : Gl} {K : Frag} {A : Around}

theorem bindL_all {kindOf : Str → Option NameKind} : ∀ (binds : List (Str × Value)) (m : Str → Option Value) (y : Str) (w : Value), kindOf y = some .local → binds.reverse.lookup y = some w → bindL kindOf binds m y = some w
  | [], m, y, w, _, h => by simp at h
  | (n, v) :: r, m, y, w, hk, h => by
    rw [List.reverse_cons, List.lookup_append] at h
    unfold bindL
    cases q : r.reverse.lookup y with
    | some w' =>
      rw [q] at h
      cases h
      exact bindL_all r _ y w hk q
    | none =>
      rw [q] at h
      simp only [Option.none_or] at h
      have hy : y = n := by
        rw [List.lookup_cons] at h
        cases e : y == n with
        | true => exact eq_of_beq e
        | false => rw [e] at h; cases h
      subst hy
      rw [List.lookup_cons, beq_self_eq_true] at h
      cases h
      rw [if_pos hk]
      -- the rest does not store it
      have : ∀ (r : List (Str × Value)) (m : Str → Option Value), r.reverse.lookup y = none → bindL kindOf r m y = m y := by
        intro r
        induction r with
        | nil => intro m _; rfl
        | cons p r ih =>
          intro m h
          obtain ⟨k, u⟩ := p
          rw [List.reverse_cons, List.lookup_append] at h
          cases q2 : r.reverse.lookup y with
          | some _ => rw [q2] at h; simp at h
          | none =>
            rw [q2] at h
            simp only [Option.none_or] at h
            unfold bindL
            rw [ih _ q2]
            split
            · show (if y = k then some u else m y) = m y
              rw [if_neg (fun e => by subst e; rw [List.lookup_cons, beq_self_eq_true] at h; cases h)]
            · rfl
      rw [this r _ q]
      simp
theorem bindC_all {kindOf : Str → Option NameKind} : ∀ (binds : List (Str × Value)) (m : Str → Option Value) (y : Str) (w : Value), kindOf y ≠ some .local → binds.reverse.lookup y = some w → bindC kindOf binds m y = some w
  | [], m, y, w, _, h => by simp at h
  | (n, v) :: r, m, y, w, hk, h => by
    rw [List.reverse_cons, List.lookup_append] at h
    unfold bindC
    cases q : r.reverse.lookup y with
    | some w' =>
      rw [q] at h
      cases h
      exact bindC_all r _ y w hk q
    | none =>
      rw [q] at h
      simp only [Option.none_or] at h
      have hy : y = n := by
        rw [List.lookup_cons] at h
        cases e : y == n with
        | true => exact eq_of_beq e
        | false => rw [e] at h; cases h
      subst hy
      rw [List.lookup_cons, beq_self_eq_true] at h
      cases h
      rw [if_neg hk]
      have : ∀ (r : List (Str × Value)) (m : Str → Option Value), r.reverse.lookup y = none → bindC kindOf r m y = m y := by
        intro r
        induction r with
        | nil => intro m _; rfl
        | cons p r ih =>
          intro m h
          obtain ⟨k, u⟩ := p
          rw [List.reverse_cons, List.lookup_append] at h
          cases q2 : r.reverse.lookup y with
          | some _ => rw [q2] at h; simp at h
          | none =>
            rw [q2] at h
            simp only [Option.none_or] at h
            unfold bindC
            rw [ih _ q2]
            split
            · rfl
            · show (if y = k then some u else m y) = m y
              rw [if_neg (fun e => by subst e; rw [List.lookup_cons, beq_self_eq_true] at h; cases h)]
      rw [this r _ q]
      simp

/-- a frame just made -/
structure Entered (s₀ : Shared) (scope : Scope) (binds : List (Str × Value)) (kindOf : Str → Option NameKind) (s : Shared) : Prop where
  ext : Ext s₀ s
  tok : 0 < s.toks
  keep : ∀ b o, s₀.heap.get? b = some o → s.heap.get? b = some o
  ns : ∃ m, s.heap.Ns s₀.heap.objs.size m ∧ ∀ y w, kindOf y = some .local → binds.reverse.lookup y = some w → m y = some w
  cell : ∀ n c, (cellsFrom (s₀.heap.objs.size + 1) scope.names []).lookup n = some c → s.heap.IsCell c (bindC kindOf binds (fun _ => none) n)
  apart : (cellsFrom (s₀.heap.objs.size + 1) scope.names []).Pairwise fun x y => x.2 ≠ y.2
  above : ∀ n c, (n, c) ∈ cellsFrom (s₀.heap.objs.size + 1) scope.names [] → s₀.heap.objs.size < c
theorem cellsFrom_nil : ∀ (names : List (Str × NameKind)) (n : Nat) (acc : List (Str × Addr)), (∀ x ∈ names, x.2 ≠ .cell) → cellsFrom n names acc = acc
  | [], _, _, _ => rfl
  | (y, k) :: r, n, acc, h => by
    unfold cellsFrom
    have hk : (k == NameKind.cell) = false := by have := h _ (.head _); simpa using this
    have ih := fun n acc => cellsFrom_nil r n acc (fun x hx => h x (.tail _ hx))
    simp [hk, ih]
/-- a frame with one name is a bare frame and one store -/
theorem newEnv_one {scope : Scope} {globals : Addr} {n : Str} {v : Value} {qual : Str} {func : Option Addr} {code : Value} {builtins : Addr} :
    newFunctionEnv scope globals [] [(n, v)] qual func code none builtins = newFunctionEnv scope globals [] [] qual func code none builtins >>= fun env => storeName env n v >>= fun _ => pure env := by
  unfold newFunctionEnv
  simp only [List.forIn_cons, List.forIn_nil, bind_assoc, pure_bind]
theorem newEnv1 {M : Model} {A : Around} {E : Value → Shared → Prop} {s : Shared} {scope : Scope} {globals : Addr} {n : Str} {v : Value} {qual : Str} {func : Option Addr} {code : Value} {builtins : Addr} {Q : Env → Shared → Prop} (hk : scope.kind = .function) (hn : scope.names.lookup n = some .local)
    (hQ : ∀ env, env = newEnv scope s.heap.objs.size globals (cellsFrom (s.heap.objs.size + 1) scope.names []) qual func code none builtins →
      ∀ s', InCallC s env.locals (bindL env.kindOf [(n, v)] fun _ => none) env.cells (bindC env.kindOf [(n, v)] fun _ => none) s' → 0 < s'.toks → Q env s') :
    wpAny M A (newFunctionEnv scope globals [] [(n, v)] qual func code none builtins) Q E s := by
  rw [newEnv_one]
  refine wpAny_bind (wpAny_newFunctionEnv_cells hk (by simp) fun env he s1 x => ?_)
  have kn : env.kindOf n = some .local := by rw [he]; exact hn
  have fu : (env.scope.kind == .class || (env.scope.kind == .module && env.locals != env.globals)) = false := by
    rw [show env.scope = scope by rw [he]; rfl, hk]; rfl
  refine wpAny_bind (wpAny_storeName_local kn x.toInCall.ns (fun h' N B => wpAny_pure (hQ env he _ ?_ (Nat.succ_pos _))) fu)
  obtain ⟨hh, tk, e⟩ := x.toInCall.same
  have eL : bindL env.kindOf [(n, v)] (fun _ => none) = fun y => if y = n then some v else none := if_pos kn
  have eC : bindC env.kindOf [(n, v)] (fun _ => none) = fun _ => none := if_pos kn
  rw [eL, eC]
  exact {
    toInCall := {
      same := ⟨h', _, by rw [e]⟩
      ns := N
      keep := fun b o q => B.extBut b o (Nat.ne_of_lt (Nat.lt_of_lt_of_le (Heap.lt_size q) x.toInCall.fresh)) (x.toInCall.keep b o q)
      fresh := x.toInCall.fresh }
    cell := fun k c q => (x.cell k c q).sameBut B (Nat.ne_of_gt (x.above k c (mem_of_lookup q)))
    apart := x.apart
    above := x.above }
theorem enter {M : Model} {A : Around} {E : Value → Shared → Prop} {s : Shared} {scope : Scope} {globals : Addr} {binds : List (Str × Value)} {qual : Str} {func : Option Addr} {code : Value} {builtins : Addr} {Q : Env → Shared → Prop} (hk : scope.kind = .function)
    (hkind : (binds.all fun y => scope.names.lookup y.1 == some .local || scope.names.lookup y.1 == some .cell) = true) (ht : 0 < s.toks ∨ ∃ n v, binds = [(n, v)] ∧ scope.names.lookup n = some .local)
    (hQ : ∀ s', Entered s scope binds (newEnv scope s.heap.objs.size globals (cellsFrom (s.heap.objs.size + 1) scope.names []) qual func code none builtins).kindOf s' → Q (newEnv scope s.heap.objs.size globals (cellsFrom (s.heap.objs.size + 1) scope.names []) qual func code none builtins) s') :
    wpAny M A (newFunctionEnv scope globals [] binds qual func code none builtins) Q E s := by
  rcases ht with ht | ⟨n, v, rfl, hl⟩
  · refine wpAny_with_toks (n := s.toks) (Nat.le_refl _) (wpAny_newFunctionEnv_cells hk (kindsX hkind _) fun env he s1 x htok => ?_)
    subst he
    refine hQ s1 ⟨let ⟨h, tk, e, _⟩ := x.done; ⟨h, tk, e⟩, Nat.lt_of_lt_of_le ht htok, x.toInCall.keep, ⟨_, x.toInCall.ns, fun y w hy hb => bindL_all binds _ y w hy hb⟩, x.cell, x.apart, x.above⟩
  · refine newEnv1 hk hl fun env he s1 x ht => ?_
    subst he
    exact hQ s1 ⟨let ⟨h, tk, e, _⟩ := x.done; ⟨h, tk, e⟩, ht, x.toInCall.keep, ⟨_, x.toInCall.ns, fun y w hy hb => bindL_all _ _ y w hy hb⟩, x.cell, x.apart, x.above⟩

/-- all that is not frozen nor lent, as it stands: what a call must keep -/
def Rest (B : Addr → Bool) (Z : PH) (h : Heap) : PH := fun a => if B a then none else match Z a with | some _ => none | none => h.get? a
theorem Rest.in (B : Addr → Bool) (Z : PH) (h : Heap) : PIn (Rest B Z h) h := fun a o e => by
  unfold Rest at e
  split at e
  · cases e
  · split at e
    · cases e
    · exact e
theorem Rest.off {B : Addr → Bool} {Z : PH} {h : Heap} {a : Addr} (f : h.get? a = none) : Rest B Z h a = none := by
  unfold Rest
  split
  · rfl
  · split
    · rfl
    · exact f
theorem Rest.lent {B : Addr → Bool} {Z : PH} {h : Heap} {a : Addr} (f : B a = true) : Rest B Z h a = none := by
  unfold Rest; rw [if_pos f]

/-- what a frame that is left gives -/
structure Left (B : Addr → Bool) (Z Z' : PH) (s s' : Shared) : Prop where
  ext : Ext s s'
  kp : ∀ b o, B b = false → s.heap.get? b = some o → s'.heap.get? b = some o
  g : Grow Z Z' s.heap s'.heap
theorem leave_post {X : Fx} {B : Addr → Bool} {Z Z' : PH} {σ : Sg} {s s' : Shared} (i : PIn Z s.heap) (e : Ext s s') (k : PSub Z Z') (st : St X (Rest B Z s.heap) Z' [] σ s'.heap) (hB : ∀ a, B a = true → Z' a = none) : Left B Z Z' s s' := by
  refine ⟨e, fun b o hb q => ?_, k, st.z, fun a o q => ?_⟩
  · cases r : Z b with
    | some o' =>
      have := i _ _ r
      rw [q] at this; cases this
      exact st.z _ _ (k _ _ r)
    | none => exact st.w b o (by unfold Rest; rw [hb, r]; exact q)
  · cases r : Z a with
    | some o' => left; have := k _ _ r; rw [q] at this; cases this; rfl
    | none =>
      right
      cases r2 : s.heap.get? a with
      | none => rfl
      | some o' =>
        have := st.zw a o q
        unfold Rest at this
        by_cases hb : B a = true
        · rw [hB a hb] at q; cases q
        · rw [if_neg hb, r] at this
          simp only [r2] at this
          cases this
theorem Left.keeps {Z Z' : PH} {s s' : Shared} (l : Left (fun _ => false) Z Z' s s') : Keeps s s' := by
  obtain ⟨h, tk, rfl⟩ := l.ext
  exact ⟨h, tk, rfl, fun b o e => l.kp b o rfl e⟩

/-- the frame of a call -/
abbrev frX (qual : Str) (scope : Scope) (L f : Addr) (cd : Value) (mc : List Str) (tabs : List (Addr × Addr × Str)) (fz : List (Str × Value) := []) : Fx := { env := envOfC qual scope L f cd, mc := mc, tabs := tabs, fz := fz }

open Classical in
noncomputable def Zcell (Z : PH) (P : Addr → Prop) (h : Heap) : PH := fun b => if P b then h.get? b else Z b
theorem Zcell.sub {Z : PH} {P : Addr → Prop} {h : Heap} (i : PIn Z h) : PSub Z (Zcell Z P h) := fun b o e => by
  unfold Zcell; split
  · exact i b o e
  · exact e
theorem Zcell.inn {Z : PH} {P : Addr → Prop} {h : Heap} (i : PIn Z h) : PIn (Zcell Z P h) h := fun b o e => by
  unfold Zcell at e; split at e
  · exact e
  · exact i b o e
theorem Zcell.not {Z : PH} {P : Addr → Prop} {h : Heap} {b : Addr} (n : ¬ P b) : Zcell Z P h b = Z b := by unfold Zcell; rw [if_neg n]
theorem Zcell.yes {Z : PH} {P : Addr → Prop} {h : Heap} {b : Addr} (n : P b) : Zcell Z P h b = h.get? b := by unfold Zcell; rw [if_pos n]

/-- what is lent to a call: lists and memo tables -/
structure Lend (Z : PH) (h : Heap) (σ : Sg) (tabs : List (Addr × Addr × Str)) (B : Addr → Bool) : Prop where
  own : ∀ p ∈ σ, Z p.1 = none ∧ ∃ vs n, h.get? p.1 = some (listO vs n) ∧ VRs Z p.2 vs.toList
  nd : (σ.map (·.1)).Nodup
  tab : ∀ q ∈ tabs, Z q.2.1 = none ∧ ∃ ps, h.get? q.2.1 = some (tabObj ps) ∧ TabInv Z ps q.2.2
  tnd : (tabs.map (·.2.1)).Nodup
  b1 : ∀ p ∈ σ, B p.1 = true
  b2 : ∀ q ∈ tabs, B q.2.1 = true
  b3 : ∀ a, B a = true → a ∈ σ.map (·.1) ∨ a ∈ tabs.map (·.2.1)
theorem Lend.none {Z : PH} {h : Heap} : Lend Z h [] [] (fun _ => false) := ⟨(by simp), (by simp), (by simp), (by simp), (by simp), (by simp), fun a e => by cases e⟩

def retS (P : Sg → AV → Prop) : Out → Prop
  | .ret x σ => P σ x
  | .next _ σ => P σ .none
  | _ => False
theorem retS_p {P : AV → Prop} : retS (fun _ => P) = retP P := by
  funext o; cases o <;> rfl

theorem code_fn (g : GlOk G K) (fz : List (Str × Value)) {f : Addr} {qual : Str} {params : Arguments} {body : List Stmt} {scope : Scope} {dV kV cd : Value} (F : FnK K f qual params body scope dV kV cd) (mc : List Str) {n : Nat} (hr : A.depth < recursionLimit)
    {Z : PH} {s : Shared} {vs : List Value} {ks : List (Str × Value)} {binds : List (Str × Value)} {ρ0 : Vars} {σ0 : Sg} {tabs : List (Addr × Addr × Str)} {B : Addr → Bool} {P : Sg → AV → Prop} {R : Result → Shared → Prop} (zs : PSub G.Z0 Z) (i : PIn Z s.heap)
    (hbind : ∀ S, peek K S (bindArgs (bare qual params body scope dV kV cd) ⟨vs, ks⟩) = some binds) (hne : 0 < s.toks ∨ ∃ n v, binds = [(n, v)] ∧ scope.names.lookup n = some .local) (hvr : BindsR Z binds ρ0)
    (hkind : (binds.all fun y => scope.names.lookup y.1 == some .local || scope.names.lookup y.1 == some .cell) = true) (hnd : ((cellsFrom 0 scope.names []).map (·.1)).Nodup)
    (hmc : ∀ x ∈ mc, scope.names.lookup x = some .cell) (hfz : ∀ p ∈ fz, scope.names.lookup p.1 = some .cell ∧ p.1 ∉ mc ∧ binds.reverse.lookup p.1 = some p.2) (ld : Lend Z s.heap σ0 tabs B)
    (hbody : ∀ L, SJ G (A.deeper (envOfC qual scope L f cd)) (frX qual scope L f cd mc tabs fz) ρ0 σ0 (execs body (envOfC qual scope L f cd)) (retS P))
    (hR : ∀ v s' Z' σ' x, Left B Z Z' s s' → 0 < s'.toks → (∀ p ∈ σ', B p.1 = true → ∃ vs n, s'.heap.get? p.1 = some (listO vs n) ∧ VRs Z' p.2 vs.toList) → (∀ q ∈ tabs, ∃ ps, s'.heap.get? q.2.1 = some (tabObj ps) ∧ TabInv Z' ps q.2.2) → (∀ a, B a = true → Z' a = none) → VR Z' x v → P σ' x → R (.ok (.ret v)) s')
    (hσ : ∀ σ' x, P σ' x → ∀ p ∈ σ0, p.1 ∈ σ'.map (·.1))
    (hco : scope.isCoroutine = false := by rfl) (hgen : scope.isGenerator = false := by rfl) (hk : scope.kind = .function := by rfl) :
    codeAny (model G.prog G.w) A (.call (.ref f) ⟨vs, ks⟩) R s := by
  obtain ⟨name, doc, pm, an, ct, oc, od, osl, ho⟩ := F.ob
  refine codeAny_call_function (fd := fnX name qual params body scope [] dV kV doc pm an cd ct) (body := body) hr (g.kin zs i _ _ ho) rfl hco hgen rfl (codeRec_of (g.kin zs i) F.code) ?_
  refine kp_binds (g.kin zs i) (fun S => (congrArg (peek K S) binds_same).trans (hbind S)) _ _ _ _ ?_
  refine enter hk hkind hne fun s1 x => ?_
  have hkeep := x.keep
  have xcell : ∀ n c, (cellsFrom (s.heap.objs.size + 1) scope.names []).lookup n = some c → s1.heap.IsCell c (bindC (fun y => scope.names.lookup y) binds (fun _ => none) n) := x.cell
  have xapart : (cellsFrom (s.heap.objs.size + 1) scope.names []).Pairwise fun x y => x.2 ≠ y.2 := x.apart
  have xabove : ∀ n c, (n, c) ∈ cellsFrom (s.heap.objs.size + 1) scope.names [] → s.heap.objs.size < c := x.above
  obtain ⟨m, hns, hm⟩ := x.ns
  refine ⟨(g.lim zs i).keeps hkeep, codeAny_func ?_⟩
  generalize hL : s.heap.objs.size = L at *
  have hX : newEnv scope L mainGlobals (cellsFrom (L + 1) scope.names []) (qual ++ ".<locals>.") (some f) cd none builtinsNs = envOfC qual scope L f cd := rfl
  have hfresh : ∀ a, L ≤ a → s.heap.get? a = none := fun a h => none_ge (hL ▸ h)
  have hZf : ∀ a, L ≤ a → Z a = none := fun a h => by
    cases q : Z a with
    | none => rfl
    | some o => have := i _ _ q; rw [hfresh a h] at this; cases this
  have names : (cellsFrom (L + 1) scope.names []).map (·.1) = (cellsFrom 0 scope.names []).map (·.1) := cellsFrom_names scope.names (L + 1) 0 [] [] rfl
  have look : ∀ x c, (cellsFrom (L + 1) scope.names []).lookup x = some c → (x, c) ∈ cellsFrom (L + 1) scope.names [] := fun x c e => mem_of_lookup e
  obtain ⟨h1, tk1, rfl⟩ := x.ext
  have i1 : PIn Z h1 := fun a o e => hkeep a o (i a o e)
  have hP : ∀ b, (∃ p ∈ fz, (cellsFrom (L + 1) scope.names []).lookup p.1 = some b) → L < b := fun b ⟨p, _, e⟩ => xabove _ _ (mem_of_lookup e)
  generalize hZ1 : Zcell Z (fun b => ∃ p ∈ fz, (cellsFrom (L + 1) scope.names []).lookup p.1 = some b) h1 = Z1
  have sub1 : PSub Z Z1 := hZ1 ▸ Zcell.sub i1
  have hcellv : ∀ y w, scope.names.lookup y = some .cell → binds.reverse.lookup y = some w → ∃ c, (cellsFrom (L + 1) scope.names []).lookup y = some c ∧ h1.IsCell c (some w) := fun y w q' hw => by
    have hs := cellsFrom_some (x := y) scope.names (L + 1) [] (.inl q')
    obtain ⟨c, hc⟩ := Option.isSome_iff_exists.mp hs
    refine ⟨c, hc, ?_⟩
    have := xcell y c hc
    rw [bindC_all binds _ y w (fun e => by rw [q'] at e; cases e) hw] at this
    exact this
  have noP : ∀ b o, s.heap.get? b = some o → ¬ ∃ p ∈ fz, (cellsFrom (L + 1) scope.names []).lookup p.1 = some b := fun b o e q => by
    have := hP b q
    rw [hfresh b (Nat.le_of_lt this)] at e; cases e
  have st : St (frX qual scope L f cd mc tabs fz) (Rest B Z s.heap) Z1 ρ0 σ0 h1 := {
    z := hZ1 ▸ Zcell.inn i1
    w := fun a o e => hkeep a o (Rest.in B Z s.heap a o e)
    zw := fun a o e => by
      by_cases q : ∃ p ∈ fz, (cellsFrom (L + 1) scope.names []).lookup p.1 = some a
      · exact Rest.off (hfresh _ (Nat.le_of_lt (hP a q)))
      · rw [← hZ1, Zcell.not q] at e
        unfold Rest; rw [e]; split <;> rfl
    off := fun a ow => by
      cases ow with
      | loc =>
        refine ⟨?_, Rest.off (hfresh _ (Nat.le_refl _))⟩
        rw [← hZ1, Zcell.not (fun q => absurd (hP _ q) (Nat.lt_irrefl _))]
        exact hZf _ (Nat.le_refl _)
      | cell hx h2 =>
        have := Nat.le_of_lt (xabove _ _ (mem_of_lookup h2))
        refine ⟨?_, Rest.off (hfresh _ this)⟩
        rw [← hZ1, Zcell.not (fun ⟨p, hp, e⟩ => (hfz p hp).2.1 (by
          have : p.1 = _ := name_of_addr xapart (mem_of_lookup e) (mem_of_lookup h2)
          rw [this]; exact hx))]
        exact hZf _ this
      | lst h =>
        obtain ⟨n0, vs0, _, e0, _⟩ := ld.own _ h
        exact ⟨by rw [← hZ1, Zcell.not (noP _ _ e0)]; exact n0, Rest.lent (ld.b1 _ h)⟩
      | tab h =>
        obtain ⟨n0, vs0, e0, _⟩ := ld.tab _ h
        exact ⟨by rw [← hZ1, Zcell.not (noP _ _ e0)]; exact n0, Rest.lent (ld.b2 _ h)⟩
    kind := hk
    gl := rfl
    bi := rfl
    vars := by
      refine ⟨m, hns, fun y u e => ?_⟩
      obtain ⟨w, hw, hr⟩ := hvr y u e
      refine ⟨w, hr.mono sub1, ?_⟩
      have hmem : (y, w) ∈ binds := by
        have := mem_of_lookup hw
        exact List.mem_reverse.mp this
      have kd := List.all_eq_true.mp hkind _ hmem
      rcases Bool.or_eq_true_iff.mp kd with q | q
      · have q' : scope.names.lookup y = some .local := by simpa using q
        exact .inl ⟨q', hm y w q' hw⟩
      · have q' : scope.names.lookup y = some .cell := by simpa using q
        obtain ⟨c, hc, hi⟩ := hcellv y w q' hw
        exact .inr ⟨.inl q', c, hc, hi⟩
    own := fun p hp => let ⟨_, vs, n, e, r⟩ := ld.own p hp; ⟨vs, n, hkeep _ _ e, r.mono sub1⟩
    nd := ld.nd
    cells := fun y hy => by
      have hs := cellsFrom_some (x := y) scope.names (L + 1) [] (.inl (hmc y hy))
      obtain ⟨c, hc⟩ := Option.isSome_iff_exists.mp hs
      exact ⟨c, _, hmc y hy, hc, xcell y c hc⟩
    cnd := fun y hy y' c h1 h2 => by
      exact name_of_addr xapart (mem_of_lookup h2) (mem_of_lookup h1)
    tab := fun q hq => let ⟨_, ps, e, r⟩ := ld.tab q hq; ⟨ps, hkeep _ _ e, r.mono sub1⟩
    tnd := ld.tnd
    frz := fun p hp => by
      obtain ⟨h2, _, h3⟩ := hfz p hp
      obtain ⟨c, hc, o, ho, hd⟩ := hcellv _ _ h2 h3
      exact ⟨c, hc, h2, o, by rw [← hZ1, Zcell.yes ⟨p, hp, hc⟩]; exact ho, hd⟩ }
  refine (hbody L).seq (s := { s with heap := h1, toks := tk1 }) ⟨zs.trans sub1, x.tok⟩ st fun fl s2 Z2 out e2 k2 z2 o p => ?_
  have e3 : Ext s s2 := Ext.trans ⟨h1, tk1, rfl⟩ e2
  have fin : ∀ v x σ', St (frX qual scope L f cd mc tabs fz) (Rest B Z s.heap) Z2 [] σ' s2.heap → VR Z2 x v → P σ' x → R (.ok (.ret v)) s2 := fun v x σ' st2 r p => by
    have hB : ∀ a, B a = true → Z2 a = none := fun a ha => by
      rcases ld.b3 a ha with q | q
      · obtain ⟨p0, hp0, rfl⟩ := List.mem_map.mp q
        have := hσ σ' x p p0 hp0
        obtain ⟨p1, hp1, e⟩ := List.mem_map.mp this
        have := (st2.off _ (.lst hp1)).1
        rw [e] at this; exact this
      · obtain ⟨p0, hp0, rfl⟩ := List.mem_map.mp q
        exact (st2.off _ (.tab hp0)).1
    exact hR v s2 Z2 σ' x (leave_post i e3 (sub1.trans k2) st2 hB) z2.tok (fun p hp _ => st2.own p hp) (fun q hq => st2.tab q hq) hB r p
  cases o with
  | next st2 => exact fin _ _ _ (st2.less fun _ _ e => by cases e) .none p
  | brk st2 => exact p.elim
  | cont st2 => exact p.elim
  | ret st2 r => exact fin _ _ _ st2 r p

theorem call_fn (g : GlOk G K) {f : Addr} {qual : Str} {params : Arguments} {body : List Stmt} {scope : Scope} {dV kV cd : Value} (F : FnK K f qual params body scope dV kV cd) (mc : List Str) {n : Nat} (hr : Room (n + 1) A)
    {Z : PH} {s : Shared} {E : Value → Shared → Prop} {vs : List Value} {ks : List (Str × Value)} {binds : List (Str × Value)} {ρ0 : Vars} {P : AV → Prop} (z : Bs G Z s) (i : PIn Z s.heap)
    (hbind : ∀ S, peek K S (bindArgs (bare qual params body scope dV kV cd) ⟨vs, ks⟩) = some binds) (hvr : BindsR Z binds ρ0)
    (hkind : (binds.all fun y => scope.names.lookup y.1 == some .local || scope.names.lookup y.1 == some .cell) = true) (hnd : ((cellsFrom 0 scope.names []).map (·.1)).Nodup)
    (hmc : ∀ x ∈ mc, scope.names.lookup x = some .cell)
    (hbody : ∀ L, SJ G (A.deeper (envOfC qual scope L f cd)) (frX qual scope L f cd mc []) ρ0 [] (execs body (envOfC qual scope L f cd)) (retP P))
    (hco : scope.isCoroutine = false := by rfl) (hgen : scope.isGenerator = false := by rfl) (hk : scope.kind = .function := by rfl) :
    wpAny (model G.prog G.w) A (call (.ref f) vs ks) (PPost Z s fun Z v => ∃ x, VR Z x v ∧ P x) E s := by
  refine wpAny_call (code_fn g [] F mc (n := n) (Nat.lt_of_le_of_lt (Nat.le_add_right _ _) hr.depth) z.sub i hbind (.inl z.tok) hvr hkind hnd hmc (fun p hp => by cases hp) .none (P := fun _ => P) (fun L => retS_p ▸ hbody L) (fun v s' Z' σ' x l tk _ _ _ r p => ?_) (fun _ _ _ p hp => by cases hp) hco hgen hk)
  exact ⟨l.keeps, Z', l.g, x, r, p⟩
end
end PL

namespace PL

/-- the class with a text, as the written part has it -/
structure QnK (K : Frag) (C fI fLt fGt : Addr) : Prop where
  keep : keepIn K (.ref C) = true
  makes : makesIn K C = true
  init : findIn K (.ref C) "__init__" = some (some (.ref fI))
  initF : typeIn K (.ref fI) = some (.type "function")
  seta : findIn K (.ref C) "__setattr__" = some (some (.builtin "object.__setattr__"))
  over : plainOver K C = true
  taker : takerIn K C "text" = some none
  hasD : hasDictIn K C = true
  get : plainGet K C "text" = true
  noT : findIn K (.ref C) "text" = some none
  lt : findIn K (.ref C) (cmpInfo .Lt).2.1 = some (some (.ref fLt))
  ltF : isFn K (.ref fLt) = true
  gt : findIn K (.ref C) (cmpInfo .Lt).2.2 = some (some (.ref fGt))
  gtF : isFn K (.ref fGt) = true
  first : ∀ D, D = C → notFirst K C (.ref D) = true
  strN : subIn K (.type "str") (.ref C) = some false
  isQ : isIn K (.ref C) C = true
  isS : isNotIn K "str" C = true
  subS : subIn K (.ref C) (.type "str") = some false

section
variable {G : Gl} {K : Frag} {A : Around} {env : Env} {ρ : Vars} {C fI fLt fGt : Addr}

theorem VR.qnInst {Z : PH} {h : Heap} {a : Addr} {t : Str} {v : Value} (i : PIn Z h) (r : VR Z (.qn C a t) v) : v = .ref a ∧ ∃ dx hs tk tk' n, InstAt h a (instObj C dx) C (some (dictOf [⟨hs, .str "text" tk, .str t tk'⟩] n)) := by
  cases r with
  | qn e1 e2 => exact ⟨rfl, _, _, _, _, _, i _ _ e1, rfl, rfl, i _ _ e2⟩

/-- a call of a value of the written part -/
theorem PW_callK (g : GlOk G K) {f : Str} {p pos : Pos} {v : Value} {e : Expr} {es : List Expr} {xs : List AV} {R : PH → Value → Prop} (hf : PE G A env ρ (.Name f p) (.val v)) (hk : keepIn K v = true) (ha : PS G A env ρ (e :: es) xs)
    (hc : COk G A v xs R) (he : starEach (e :: es) env = (false, eval e env) :: starEach es env := by rfl) (hp : (backTo pos (starEach es env)).any (·.1) = false := by rfl) :
    PW G A env ρ (eval (.Call (.Name f p) (e :: es) [] pos) env) R := fun Z s E z0 i f =>
  Call_ (hf.seq z0 i f fun u s1 Z1 k1 g1 r1 z1 f1 => by
    cases r1.valInv
    refine callWith_K (g.kin z1.sub g1.inn) hk ((ha pos).seq z1 g1.inn f1 fun vs s2 Z2 k2 g2 r2 z2 f2 => ⟨g.kin z2.sub g2.inn, ?_⟩) he hp
    exact wpAny_mono (hc Z2 s2 E vs z2 g2.inn r2) (fun _ _ p => (p.trans k2 g2).trans k1 g1) fun _ _ e => e)

/-- the text of a thing -/
theorem PE_text (g : GlOk G K) (q : QnK K C fI fLt fGt) {e : Expr} {pos : Pos} {a : Addr} {t : Str} (h : PE G A env ρ e (.qn C a t))
    (he : eval (.Attribute e "text" pos) env = (do
      let o ← eval e env
      standAt pos.atName
      let r ← holding [o] (getAttr o "text" true)
      letTemporaryGo e o r
      pure r) := by rfl) : PE G A env ρ (.Attribute e "text" pos) (.str t) := fun Z s E z0 i f => by
  rw [he]
  refine wpAny_bind (h.seq z0 i f fun v s1 Z1 k1 g1 r1 z1 f1 => ?_)
  obtain ⟨rfl, dx, hs, tk, tk', n, I⟩ := r1.qnInst g1.inn
  obtain ⟨ge, gh⟩ := plainGet_of q.get
  refine wpAny_bind (wpAny_standAt (wpAny_bind (wpAny_holding (get_value (g.kin z1.sub g1.inn) I ge (findObj_own q.hasD q.noT rfl rfl) rfl ?_))))
  exact wpAny_bind (wpAny_letTemporaryGo (wpAny_pure ((PPost.same (R := fun Z v => VR Z (.str t) v) g1.inn (keeps_tok _ _) .str).trans k1 g1)))

/-- isinstance of it -/
theorem c_isQ (g : GlOk G K) (q : QnK K C fI fLt fGt) {a : Addr} {t : Str} : COk G A (.builtin "isinstance") [.qn C a t, .val (.ref C)] fun Z v => VR Z (.bool true) v := fun Z s E vs z i h => by
  cases h with
  | cons h h' =>
    cases h' with
    | cons h2 h' =>
      cases h'
      cases h2.valInv
      obtain ⟨rfl, dx, hs, tk, tk', n, I⟩ := h.qnInst i
      exact isi_call (g.kin z.sub i) (fun M => I.type) q.isQ (by intro e; cases e) (PPost.same (R := fun Z v => VR Z (.bool true) v) i (keeps_refl _) .bool)
theorem c_isS (g : GlOk G K) (q : QnK K C fI fLt fGt) {t : Str} : COk G A (.builtin "isinstance") [.str t, .val (.ref C)] fun Z v => VR Z (.bool false) v := fun Z s E vs z i h => by
  cases h with
  | cons h h' =>
    cases h' with
    | cons h2 h' =>
      cases h'
      cases h2.valInv
      obtain ⟨u, rfl⟩ := h.strInv
      exact isn_call (P := fun _ => True) (g.kin z.sub i) (fun M => Looks.of_pure rfl) q.isS (by intro e; cases e) trivial str_cls (PPost.same (R := fun Z v => VR Z (.bool false) v) i (keeps_tok _ _) .bool)


def bareA : AV → Str
  | .str t => t
  | .qn _ _ t => t
  | _ => ⟨#[]⟩
/-- a text or a thing of the class -/
inductive Nm (C : Addr) : AV → Prop
  | str {t : Str} : Nm C (.str t)
  | qn {a : Addr} {t : Str} : Nm C (.qn C a t)

/-- a comparison whose right side goes not first: the left side's word, then the right side's -/
theorem rich_turns {v1 v2 t1 t2 : Value} {s : Shared} {E : Value → Shared → Prop} {P : Value → Shared → Prop} (hu : A.units < cLine) (no : oneThing? .Lt v1 v2 = none)
    (e1 : Looks (model G.prog G.w) s.heap (typeOf v1) t1) (e2 : Looks (model G.prog G.w) s.heap (typeOf v2) t2) (e3 : (t1 != t2) = true → Looks (model G.prog G.w) s.heap (isSubtype t2 t1) false)
    (h : wpAny (model G.prog G.w) A (tryCompare v1 (cmpInfo .Lt).2.1 v2) (fun r s1 => match r with
      | some v => P v s1
      | none => wpAny (model G.prog G.w) A (tryCompare v2 (cmpInfo .Lt).2.2 v1) (fun r s2 => ∃ v, r = some v ∧ P v s2) E s1) E s) :
    wpAny (model G.prog G.w) A (richCompare .Lt v1 v2) P E s := by
  unfold richCompare
  rw [no]
  apply wpAny_holding
  apply wpAny_bind
  apply wpAny_cRoomFor hu
  refine wpAny_bind (e1.here (wpAny_bind (e2.here ?_)))
  by_cases q : (t1 != t2) = true
  case' pos => rw [if_pos q]; refine wpAny_bind ((e3 q).here ?_)
  case' neg => rw [if_neg q]; refine wpAny_bind (wpAny_pure ?_)
  all_goals
    dsimp only
    rw [if_neg Bool.false_ne_true]
    apply wpAny_bind
    refine wpAny_mono h ?_ fun _ _ z => z
    intro r s1 k
    cases r with
    | some v => exact wpAny_pure k
    | none =>
      show wpAny _ A (_ >>= _) P E s1
      apply wpAny_bind
      refine wpAny_mono k ?_ fun _ _ z => z
      rintro _ s2 ⟨v, rfl, p⟩
      exact wpAny_pure p
/-- a method of the thing's own class answers -/
theorem own_says {name : Str} {f : Addr} {a : Addr} {ox : Obj} {od : Option Obj} {y v : Value} {s : Shared} {E : Value → Shared → Prop} {P : Shared → Prop} (X : K.In s.heap) (I : InstAt s.heap a ox C od) (hs : findIn K (.ref C) name = some (some (.ref f))) (hf : isFn K (.ref f) = true) (hv : v ≠ .notImplemented)
    (h : wpAny (model G.prog G.w) A (call (.ref f) [.ref a, y]) (fun r s' => r = v ∧ P s') E s) :
    wpAny (model G.prog G.w) A (tryCompare (.ref a) name y) (fun r s' => r = some v ∧ P s') E s := by
  have k : wpAny (model G.prog G.w) A (callSpecialIfBound? (.ref a) name [y]) (fun r s' => r = some v ∧ P s') E s :=
    ifBound_K X I hs hf (wpAny_mono h (fun _ _ q => ⟨congrArg some q.1, q.2⟩) fun _ _ z => z)
  apply wpAny_bind
  refine wpAny_mono k ?_ fun _ _ z => z
  rintro _ s' ⟨rfl, p⟩
  cases v with
  | notImplemented => exact absurd rfl hv
  | _ => exact wpAny_pure ⟨rfl, p⟩

/-- the two methods -/
structure QnLt (G : Gl) (A : Around) (C fLt fGt : Addr) : Prop where
  lt : ∀ a t y, Nm C y → COk G A (.ref fLt) [.qn C a t, y] fun Z v => VR Z (.bool (decide (t.cps.toList < (bareA y).cps.toList))) v
  gt : ∀ a t y, Nm C y → COk G A (.ref fGt) [.qn C a t, y] fun Z v => VR Z (.bool (decide ((bareA y).cps.toList < t.cps.toList))) v

theorem COk.bool {f : Value} {xs : List AV} {b : Bool} (h : COk G A f xs fun Z v => VR Z (.bool b) v) {Z : PH} {s : Shared} {E : Value → Shared → Prop} {vs : List Value} (z : Bs G Z s) (i : PIn Z s.heap) (r : VRs Z xs vs) :
    wpAny (model G.prog G.w) A (call f vs) (fun v s' => v = .bool b ∧ Keeps s s') E s :=
  wpAny_mono (h Z s E vs z i r) (fun v s' p => ⟨p.2.choose_spec.2.boolInv, p.1⟩) fun _ _ e => e

theorem meets_str_lt_ref (x : Str) (t : Tok) (a : Addr) : Meets (Builtin.«str.__lt__» ⟨[.str x t, .ref a], []⟩) (fun _ R s => (∃ o, s.heap.get? a = some o ∧ o.data = .plain) ∧ R (.ok (.ret .notImplemented)) s) := fun prog w A R s h => by
  obtain ⟨⟨o, ho, hd⟩, h⟩ := h
  show wpAny _ _ ((load a >>= fun o => match o.data with | .prim (.str s _) => pure (some s) | _ => pure none) >>= _) _ _ s
  refine wpAny_bind (wpAny_bind (wpAny_load ho ?_))
  rw [hd]
  exact wpAny_pure (wpAny_bind (wpAny_rule (wpAny_pure h)))
theorem cmp_ltq (g : GlOk G K) (q : QnK K C fI fLt fGt) (m : QnLt G A C fLt fGt) (hu : A.units < cLine) {x y : AV} (hx : Nm C x) (hy : Nm C y) :
    CmpOk G A .Lt x y (decide ((bareA x).cps.toList < (bareA y).cps.toList)) := fun Z s E v1 v2 z i r1 r2 => by
  have X := g.kin z.sub i
  cases hx with
  | qn =>
    rename_i a t
    obtain ⟨rfl, dx, hs, tk, tk', n, I⟩ := r1.qnInst i
    have one := own_says X I q.lt q.ltF (by intro e; cases e) ((m.lt a t y hy).bool (E := E) z i (.cons r1 (.cons r2 .nil)))
    have go : ∀ t2, Looks (model G.prog G.w) s.heap (typeOf v2) t2 → ((Value.ref C != t2) = true → Looks (model G.prog G.w) s.heap (isSubtype t2 (Value.ref C)) false) →
        wpAny (model G.prog G.w) A (richCompare .Lt (.ref a) v2) (fun v s' => v = .bool (decide (t.cps.toList < (bareA y).cps.toList)) ∧ Keeps s s') E s := fun t2 e2 e3 =>
      rich_turns hu (oneThing_ref ..) I.type e2 e3 (wpAny_mono one (fun r s' p => by obtain ⟨rfl, k⟩ := p; exact ⟨rfl, k⟩) fun _ _ z => z)
    cases hy with
    | qn =>
      obtain ⟨rfl, _, _, _, _, _, I2⟩ := r2.qnInst i
      exact go _ I2.type (fun e => by rw [bne_self_eq_false] at e; cases e)
    | str =>
      obtain ⟨u, rfl⟩ := r2.strInv
      exact go (.type "str") (Looks.of_pure rfl) fun _ => looks_subIn X q.strN
  | str =>
    obtain ⟨u, rfl⟩ := r1.strInv
    cases hy with
    | str =>
      obtain ⟨u', rfl⟩ := r2.strInv
      exact cmp_lts Z s E _ _ z i .str .str
    | qn =>
      rename_i t a2 t2
      obtain ⟨rfl, _, _, _, _, _, I2⟩ := r2.qnInst i
      have hT : s.TypeIs (.str t u) "str" := rfl
      have two := own_says (y := .str t u) X I2 q.gt q.gtF (by intro e; cases e) ((m.gt a2 t2 (.str t) .str).bool (E := E) z i (.cons r2 (.cons .str .nil)))
      exact rich_turns hu (hT.oneThing_none ..) (Looks.of_pure rfl) I2.type (fun _ => looks_subIn X q.subS)
        (wpAny_tryCompare_declines hT PySem.F.slot_str_lt (call_meets PySem.F.slot_str_lt hT PySem.F.entry_str_lt (PySem.F.args_str_lt_2 _ _) (meets_str_lt_ref t u a2) ⟨⟨_, I2.at_, rfl⟩, rfl,
          wpAny_mono two (fun r s' p => ⟨_, p.1, rfl, p.2⟩) fun _ _ z => z⟩))
end
end PL

namespace PL
section
variable {G : Gl} {K : Frag} {A : Around} {env : Env} {ρ : Vars} {C fI fLt fGt : Addr}

theorem PT_none {e : Expr} (h : PE G A env ρ e .none) (he : ∀ whole, isTrue e env whole = (do let v ← whole; standAt e.pos; holding [v] (truthy v)) := by intro _; rfl) : PT G A env ρ e false := fun Z s E z0 i f =>
  isTrue_plain (h.seq z0 i f fun _ _ _ k1 g1 r1 _ _ => by
    cases r1.noneInv
    exact truthy_none ((PPost.same (R := fun _ v => v = false) g1.inn (keeps_refl _) rfl).trans k1 g1)) (he _)

/-- the making of one: if tag: …; self.text = … -/
theorem c_make (g : GlOk G K) (q : QnK K C fI fLt fGt) {qual : Str} {params : Arguments} {scope : Scope} {dV kV cd : Value} {tp sp vp p1 p2 p3 p4 : Pos} {body1 : List Stmt} (F : FnK K fI qual params [.If (.Name "tag" tp) body1 [] p1, .Assign [.Attribute (.Name "self" sp) "text" p3] (.Name "text_or_uri" vp) p4] scope dV kV cd)
    (hr : Room 1 A) {t : Str} (hbind : ∀ S x v, ∃ binds, peek K S (bindArgs (bare qual params [.If (.Name "tag" tp) body1 [] p1, .Assign [.Attribute (.Name "self" sp) "text" p3] (.Name "text_or_uri" vp) p4] scope dV kV cd) ⟨[x, v], []⟩) = some binds ∧
      binds = ([("self", x), ("text_or_uri", v), ("tag", .none)] : List (Str × Value)))
    (n1 : scope.names.lookup ("self" : Str) = some .local) (n2 : scope.names.lookup ("text_or_uri" : Str) = some .local) (n3 : scope.names.lookup ("tag" : Str) = some .local) (hk : scope.kind = .function) (hco : scope.isCoroutine = false) (hgen : scope.isGenerator = false) :
    COk G A (.ref C) [.str t] fun Z v => ∃ a, VR Z (.qn C a t) v := fun Z s E vs z i h => by
  cases h with
  | cons h h' =>
    cases h'
    obtain ⟨u, rfl⟩ := h.strInv
    have X := g.kin z.sub i
    obtain ⟨h0, ge, d, t0, os⟩ := s
    refine wpAny_call (make_core (makes_of X q.makes) (looks_findIn X q.init) (fun self => bind_fn X self q.initF) (.inl rfl) ?_)
    have kp : ∀ b o, h0.get? b = some o → ((h0.push emptyDict).push (instObj C h0.objs.size)).get? b = some o := fun b o e => Heap.get?_push_of_some _ (Heap.get?_push_of_some _ e)
    have i1 : PIn Z ((h0.push emptyDict).push (instObj C h0.objs.size)) := fun a o e => kp _ _ (i a o e)
    have X1 : K.In ((h0.push emptyDict).push (instObj C h0.objs.size)) := g.kin z.sub i1
    obtain ⟨name, doc, pm, an, ct, oc, od, osl, ho⟩ := F.ob
    have hd := hr.depth
    refine codeAny_call_function (fd := fnX name qual params _ scope [] dV kV doc pm an cd ct) (body := _) (by show A.depth + 1 < _; omega) (X1 _ _ ho) rfl hco hgen rfl (codeRec_of X1 F.code) ?_
    refine kp_binds X1 (fun S => (congrArg (peek K S) binds_same).trans ((hbind S _ _).choose_spec.1.trans (congrArg some (hbind S _ _).choose_spec.2))) _ _ _ _ ?_
    refine enter hk (by show (List.all [_, _, _] fun y : Str × Value => scope.names.lookup y.1 == some .local || scope.names.lookup y.1 == some .cell) = true; simp only [List.all_cons, List.all_nil, n1, n2, n3]; rfl) (.inl z.tok) fun s1 x => ?_
    have hkeep := x.keep
    refine ⟨(g.lim z.sub i1).keeps hkeep, codeAny_func ?_⟩
    obtain ⟨m, hns, hm⟩ := x.ns
    obtain ⟨h1, tk1, rfl⟩ := x.ext
    have sz : ((h0.push emptyDict).push (instObj C h0.objs.size)).objs.size = h0.objs.size + 2 := by rw [Heap.size_push, Heap.size_push]
    have kd : ∀ y, (newEnv scope ((h0.push emptyDict).push (instObj C h0.objs.size)).objs.size mainGlobals (cellsFrom (((h0.push emptyDict).push (instObj C h0.objs.size)).objs.size + 1) scope.names []) (qual ++ ".<locals>.") (some fI) cd none builtinsNs).kindOf y = scope.names.lookup y := fun y => rfl
    have i2 : PIn Z h1 := fun a o e => hkeep a o (i1 a o e)
    have fm : FmR Z (newEnv scope ((h0.push emptyDict).push (instObj C h0.objs.size)).objs.size mainGlobals (cellsFrom (((h0.push emptyDict).push (instObj C h0.objs.size)).objs.size + 1) scope.names []) (qual ++ ".<locals>.") (some fI) cd none builtinsNs)
        ([("self", .ref (h0.objs.size + 1)), ("text_or_uri", .str t), ("tag", .none)] : Vars) h1 := by
      refine ⟨hk, rfl, rfl, m, hns, fun y v e => ?_⟩
      have key : ∀ y w, scope.names.lookup y = some .local → List.lookup y ([("tag", Value.none), ("text_or_uri", .str t u), ("self", .ref (h0.objs.size + 1))] : List (Str × Value)) = some w → m y = some w := fun y w h1 h2 => hm y w h1 h2
      rw [lookup_cons_if] at e
      by_cases q1 : y = ("self" : Str)
      · subst q1
        rw [if_pos rfl] at e; cases e
        exact ⟨.ref (h0.objs.size + 1), .ref, .inl ⟨by rw [kd]; exact n1, key _ _ n1 rfl⟩⟩
      · rw [if_neg q1, lookup_cons_if] at e
        by_cases q2 : y = ("text_or_uri" : Str)
        · subst q2
          rw [if_pos rfl] at e; cases e
          exact ⟨.str t u, .str, .inl ⟨by rw [kd]; exact n2, key _ _ n2 rfl⟩⟩
        · rw [if_neg q2, lookup_cons_if] at e
          by_cases q3 : y = ("tag" : Str)
          · subst q3
            rw [if_pos rfl] at e; cases e
            exact ⟨.none, .none, .inl ⟨by rw [kd]; exact n3, key _ _ n3 rfl⟩⟩
          · rw [if_neg q3] at e; cases e
    have z1 : Bs G Z ⟨h1, ge, d, tk1, os⟩ := ⟨z.sub, x.tok⟩
    refine wpAny_execs_cons (wpAny_If ((PT_none (PE_name (x := ("tag" : Str)) rfl)).seq z1 i2 fm fun b s2 Z2 k2 g2 r2 z2 f2 => ?_))
    subst r2
    refine wpAny_execs_nil (wpAny_execs_cons (plainObj_wpAny_Assign_Attribute ((PE_name (x := ("text_or_uri" : Str)) (v := .str t) rfl).seq z2 g2.inn f2 fun v s3 Z3 k3 g3 r3 z3 f3 => (PE_name (x := ("self" : Str)) (v := .ref (h0.objs.size + 1)) rfl).seq z3 g3.inn f3 fun ov s4 Z4 k4 g4 r4 z4 f4 => ?_)))
    cases r4.refInv
    obtain ⟨u3, rfl⟩ := r3.strInv
    obtain ⟨m4, hns4, _⟩ := f4.vars
    have kk4 : ∀ b o, ((h0.push emptyDict).push (instObj C h0.objs.size)).get? b = some o → s4.heap.get? b = some o := fun b o e => kk k4 _ _ (kk k3 _ _ (kk k2 _ _ (hkeep _ _ e)))
    have ex4 : Ext ⟨h1, ge, d, tk1, os⟩ s4 := ((Ext.ofKeeps k2).trans (.ofKeeps k3)).trans (.ofKeeps k4)
    have aX : s4.heap.get? (h0.objs.size + 1) = some (instObj C h0.objs.size) := kk4 _ _ (by
      have := Heap.get?_push_size (o := instObj C h0.objs.size) (h0.push emptyDict) rfl
      rwa [Heap.size_push] at this)
    have aD : s4.heap.get? h0.objs.size = some emptyDict := kk4 _ _ (Heap.get?_push_of_some _ (Heap.get?_push_size _ rfl))
    have F4 : Fr h0 ((h0.push emptyDict).push (instObj C h0.objs.size)).objs.size s4.heap m4 := ⟨hns4, fun b o e => kk4 _ _ (kp _ _ e), by rw [sz]; omega⟩
    have N4 : News h0 ((h0.push emptyDict).push (instObj C h0.objs.size)).objs.size s4.heap [(h0.objs.size + 1, instObj C h0.objs.size), (h0.objs.size, emptyDict)] := by
      intro p hp
      rcases List.mem_cons.mp hp with rfl | hp
      · exact ⟨aX, by rw [sz]; show h0.objs.size + 1 ≠ h0.objs.size + 2; omega, none_ge (by show h0.objs.size ≤ h0.objs.size + 1; omega)⟩
      · rw [List.mem_singleton.mp hp]
        exact ⟨aD, by rw [sz]; show h0.objs.size ≠ h0.objs.size + 2; omega, none_ge (Nat.le_refl _)⟩
    refine set_dict (es := []) (n := 0) F4 X N4 ⟨aX, rfl, rfl, aD⟩ rfl q.seta q.over q.taker q.hasD rfl rfl (news' := [(h0.objs.size + 1, instObj C h0.objs.size), (h0.objs.size, dictOf [⟨PyData.keyHash G.w.params "text", .str "text" (s4.toks + 1), .str t u3⟩] 1)]) ?_ (Nat.le_of_ble_eq_true rfl) fun h5 F5 N5 => ?_
    · exact Upd.tail (by show h0.objs.size + 1 ≠ h0.objs.size; omega) (.head (fun p hp => by cases hp))
    · refine wpAny_execs_nil ⟨rfl, ?_⟩
      have e1 : h5.get? (h0.objs.size + 1) = some (instObj C h0.objs.size) := (N5 _ (.head _)).1
      have e2 : h5.get? h0.objs.size = some (dictOf [⟨PyData.keyHash G.w.params "text", .str "text" (s4.toks + 1), .str t u3⟩] 1) := (N5 _ (.tail _ (.head _))).1
      have kp5 : ∀ b o, h0.get? b = some o → h5.get? b = some o := F5.keep
      obtain ⟨h4, tk4, rfl⟩ := ex4
      have m1 : h0.get? h0.objs.size = none := none_ge (Nat.le_refl _)
      have m2 : h0.get? (h0.objs.size + 1) = none := none_ge (Nat.le_succ _)
      have gA : Grow Z (Zp Z h0.objs.size (dictOf [⟨PyData.keyHash G.w.params "text", .str "text" (tk4 + 1), .str t u3⟩] 1)) h0 h5 := Zp.grow i kp5 e2 m1
      have gB : Grow Z (Zp (Zp Z h0.objs.size (dictOf [⟨PyData.keyHash G.w.params "text", .str "text" (tk4 + 1), .str t u3⟩] 1)) (h0.objs.size + 1) (instObj C h0.objs.size)) h0 h5 := by
        refine ⟨fun a o e => ?_, Zp.inn gA.inn (fun b o e => e) e1, fun a o e => ?_⟩
        · have h1 := gA.sub a o e
          unfold Zp
          by_cases r : a = h0.objs.size + 1
          · have := i a o e; rw [r, m2] at this; cases this
          · rw [if_neg r]; exact h1
        · unfold Zp at e
          by_cases r : a = h0.objs.size + 1
          · exact .inr (r ▸ m2)
          · rw [if_neg r] at e; exact gA.new a o e
      refine ⟨keeps_of kp5, _, gB, h0.objs.size + 1, .qn (dx := h0.objs.size) (hs := PyData.keyHash G.w.params "text") (tk := tk4 + 1) (tk' := u3) (n := 1) Zp.self ?_⟩
      unfold Zp
      rw [if_neg (Nat.ne_of_lt (Nat.lt_succ_self _)), if_pos rfl]
end
end PL

namespace PL
section
variable {G : Gl} {K : Frag} {A : Around} {env : Env} {ρ : Vars} {X : Fx} {σ : Sg} {Post : Out → Prop}

theorem S_try {body : List Stmt} {h0 : ExceptHandler} {hs : List ExceptHandler} {pos : Pos} (h : SJ G A X ρ σ (execs body X.env) Post) : SJ G A X ρ σ (exec (.Try body (h0 :: hs) [] [] pos) X.env) Post := fun W Z s E z st =>
  wpAny_Try_except (wpAny_mono (h W Z s _ z st) (fun fl s' p => by
    cases fl with
    | next => exact wpAny_execs_nil p
    | brk => exact p
    | cont => exact p
    | ret v => exact p) fun _ _ e => e)

/-- one sign for a text -/
def subL (c : Nat) (z : List Nat) (x : List Nat) : List Nat := x.flatMap fun k => if k = c then z else [k]
theorem subL_free {c : Nat} {z x : List Nat} (h : c ∉ x) : subL c z x = x := by
  unfold subL
  induction x with
  | nil => rfl
  | cons k r ih =>
    rw [List.mem_cons, not_or] at h
    rw [List.flatMap_cons, if_neg (Ne.symm h.1), ih h.2, List.singleton_append]
theorem join_two (y p q : Str) (r : List Str) : (Str.join y (p :: q :: r)).cps.toList = p.cps.toList ++ (y.cps.toList ++ (Str.join y (q :: r)).cps.toList) := by
  simp [Str.join, Str.cps_append]
theorem subL_append {c : Nat} {z x y : List Nat} : subL c z (x ++ y) = subL c z x ++ subL c z y := List.flatMap_append
theorem subL_join (c : Nat) (z : Str) (parts : List Str) : (∀ p ∈ parts, c ∉ p.cps.toList) → subL c z.cps.toList (Str.join ⟨#[c]⟩ parts).cps.toList = (Str.join z parts).cps.toList := by
  induction parts with
  | nil => intro _; rfl
  | cons p r ih =>
    intro h
    have hp : subL c z.cps.toList p.cps.toList = p.cps.toList := subL_free (h p (by simp))
    cases r with
    | nil => exact hp
    | cons q r =>
      rw [join_two, join_two, subL_append, subL_append, hp, ih fun a m => h a (by simp [m])]
      simp [subL]
theorem replace_subL (x z : Str) (c : Nat) : (Txt.replace x ⟨#[c]⟩ z).cps.toList = subL c z.cps.toList x.cps.toList := by
  rw [StrLaws.replace_one, ← subL_join c z _ (StrLaws.split_free x c), StrLaws.join_split]

/-- a sign of a text gives way to a text -/
theorem PE_replace {e : Expr} {y z x : Str} {c : Nat} {p1 p2 apos pos : Pos} {k1 k2 : Nat} {pl : Sem Bool} (ho : PE G A env ρ e (.str x)) (hy : y = ⟨#[c]⟩) (hyz : (y == z) = false) (hx : x.length ≤ 1048576) (hz : z.length ≤ 14)
    (he : eval (.Call (.Attribute e "replace" apos) [.Constant (.str y) k1 p1, .Constant (.str z) k2 p2] [] pos) env = (do
      let ov ← eval e env
      standAt apos.atName
      let (f, first) ← holding [ov] (getMethod ov "replace" pl)
      callWith pos f first (backTo pos (starEach [.Constant (.str y) k1 p1, .Constant (.str z) k2 p2] env)) []) := by rfl) :
    PE G A env ρ (.Call (.Attribute e "replace" apos) [.Constant (.str y) k1 p1, .Constant (.str z) k2 p2] [] pos) (.str ⟨(subL c z.cps.toList x.cps.toList).toArray⟩) := fun Z s E z0 i f =>
  MethodCall_ (ho.seq z0 i f fun v s1 Z1 k1' g1 r1 z1 f1 => by
    obtain ⟨t, rfl⟩ := r1.strInv
    refine GM.replace (callWith_method1 (args_cons (pos := pos) ?_ rfl) rfl rfl)
    rw [eval_Constant]
    refine wpAny_mkText (args_cons (pos := pos) ?_ rfl)
    rw [eval_Constant]
    refine wpAny_mkText (args_nil ?_)
    have tk := z1.tok
    refine SC.replaceW (u := s1.toks) (v := s1.toks + 1) (Nat.ne_of_gt tk) (Nat.succ_ne_zero _) (Nat.ne_of_lt (Nat.lt_succ_self _)) hyz hx hz fun t' k => ?_
    have eq : Txt.replace x y z = ⟨(subL c z.cps.toList x.cps.toList).toArray⟩ := by
      rw [hy, ← replace_subL, Array.toArray_toList]
    rw [eq]
    exact (PPost.same (R := fun Z v => VR Z (.str _) v) g1.inn (keeps_tok _ _) .str).trans k1' g1) he
end
end PL

namespace PL
section
variable {G : Gl} {K : Frag} {A : Around} {env : Env} {ρ : Vars} {X : Fx} {σ : Sg} {Post : Out → Prop}

/-- a list comprehension stored under a local name -/
theorem S_assignComp {elt iter : Expr} {x y : Str} {px py : Pos} {ifs : List Expr} {scope : Scope} {pos spos : Pos} {src : AV} {items : List AV} {cl : List (Str × Addr)} {caps : Vars} (p : AV → Bool) (F : AV → AV) (hy : X.env.kindOf y = some .local)
    (hsrc : PE G A X.env ρ iter src) (hit : IterOk G A src items) (hn : items.length ≤ 1000000)
    (hone : ∀ it, it ∈ items → oneAV it = true) (hflat : ∀ it, it ∈ items → p it = true → flatAV (F it) = true)
    (hclos : closureFor scope X.env = pure cl) (hcell : ∀ y ∈ scope.names, y.2 ≠ .cell) (hkind : scope.kind = .function)
    (hnames : ∀ y ∈ scope.names, y.2 = .local → scope.names.lookup y.1 = some .local) (hx : scope.names.lookup x = some .local)
    (hcap : CapOk X.env scope cl ρ caps)
    (htest : ∀ C it, it ∈ items → PW G A (compEnvC scope cl C X.env) ((x, it) :: caps) (forIn ifs true fun c r => if r = true then do let ok ← isTrue c (compEnvC scope cl C X.env) (eval c (compEnvC scope cl C X.env)); pure (ForInStep.yield ok) else pure (ForInStep.yield r)) fun _ b => b = p it)
    (helt : ∀ C it, it ∈ items → p it = true → PE G A (compEnvC scope cl C X.env) ((x, it) :: caps) elt (F it))
    (hp : Post (.next (setV ρ y (.list ((items.filter p).map F))) σ))
    (hsw : swapsWith (.ListComp elt [⟨.Name x px, iter, ifs, 0⟩] scope pos) (some (.Name y py)) spos.line X.env = pure true := by rfl)
    (hs : ∀ x, foldedSetIterable iter X.env x = pure x := by intro _; rfl) :
    SJ G A X ρ σ (exec (.Assign [.Name y py] (.ListComp elt [⟨.Name x px, iter, ifs, 0⟩] scope pos) spos) X.env) Post := fun W Z s E z st => by
  rw [exec_Assign_Name_used _ _ _ _ hsw]
  have use : ∀ u, ∃ c : Pos, evalThenUse (.ListComp elt [⟨.Name x px, iter, ifs, 0⟩] scope pos) X.env u = comprehension (.ListComp elt [⟨.Name x px, iter, ifs, 0⟩] scope pos) scope X.env c (newList []) false (eval iter X.env) (some u) >>= fun _ => pure () := fun u => ⟨_, rfl⟩
  apply wpAny_bind
  apply wpAny_standAt
  apply wpAny_bind
  obtain ⟨c, use⟩ := use (assign (.Name y py) X.env)
  rw [use]
  apply wpAny_bind
  refine wpAny_mono (Q := fun _ s' => SPost X W Z s Post .next s') (wpAny_comprehension_free (use := some (assign (.Name y py) X.env)) rfl hs hclos hkind hnames ?_) (fun _ _ q => wpAny_pure (wpAny_pure q)) fun _ _ q => q
  refine hsrc.seq z st.z st.fm fun v s1 Z1 k1 g1 r1 z1 f1 => comp_core p F hit hn hone hflat hcell hkind hx hcap htest helt z1 g1.inn f1 r1 fun D C h' tk m' Z' old g' r' hC hZC hn => ?_
  have st1 := st.grow (kk k1) g1
  have st2 : St X W Z' ρ σ h' := st1.grow old g'
  obtain ⟨oC, esC, epC, hoC, hdC, hrC⟩ := hn
  have hOwn : ¬ Own X σ C := fun ow => by
    obtain ⟨ob, e⟩ := ow.there st1
    rw [hC] at e; cases e
  have hWC : W C = none := by
    cases q : W C with
    | none => rfl
    | some o => have := st1.w _ _ q; rw [hC] at this; cases this
  have st3 := Own.out st2 hoC hZC hOwn
  show wpAny _ A (assign (.Name y py) X.env (.ref D)) _ _ _
  refine wpAny_assign_Name (store_name (s := { s1 with heap := h', toks := tk }) (.loc hy) st3 r' fun h2 tk2 _ st4 => ?_)
  have hoC2 : h2.get? C = some oC := st4.w _ _ Zp.self
  refine ⟨m', ⟨oC, esC, epC, hoC2, hdC, hrC⟩, fun h3 hs3 => ?_⟩
  have st5 : St X W Z' (setV ρ y (.list ((items.filter p).map F))) σ h3 := (st4.unframe hWC).moved hZC hWC hOwn ⟨oC, hoC2, fun v e => by rw [hdC] at e; cases e⟩ fun b o' hb e => hs3.extBut b o' hb e
  exact ⟨(Ext.ofKeeps k1).trans ⟨_, _, rfl⟩, Z', _, g1.sub.trans g'.sub, .next st5, hp⟩
end
end PL

namespace PL
section
variable {G : Gl} {K : Frag} {A : Around} {env : Env} {ρ : Vars} {X : Fx} {σ : Sg} {Post : Out → Prop}

/-- a memo table put anew, the heap grown -/
theorem St.setTab {W Z Z' : PH} {h h' : Heap} (x : St X W Z ρ σ h) {q : Addr × Addr × Str} {ps : Array Value} (hq : q ∈ X.tabs) (up : ∀ b o, b ≠ q.2.1 → h.get? b = some o → h'.get? b = some o) (hn : h'.get? q.2.1 = some (tabObj ps)) (g : Grow Z Z' h h') (ht : TabInv Z' ps q.2.2) : St X W Z' ρ σ h' := by
  obtain ⟨offZ, offW⟩ := x.off _ (.tab hq)
  obtain ⟨ps0, ea, _⟩ := x.tab _ hq
  have nl : ∀ {b : Addr} {o : Obj}, h.get? b = some o → (∀ v, o.data ≠ .fields v) → b ≠ q.2.1 := fun e d r => by
    subst r; rw [ea] at e; cases e; exact d _ rfl
  obtain ⟨m, hm, hv⟩ := x.vars
  refine { z := g.inn, w := fun b o e => up b o (fun r => by rw [r, offW] at e; cases e) (x.w b o e), zw := fun a o e => ?_, off := fun a ow => ?_, kind := x.kind, gl := x.gl, bi := x.bi,
                  vars := ⟨m, ?_, fun z u e => ?_⟩, own := fun p hp => ?_, nd := x.nd, cells := fun z hz => ?_, cnd := x.cnd, tab := fun r hr => ?_, tnd := x.tnd, frz := fun p hp => let ⟨c, h1, h2, h3⟩ := x.frz p hp; ⟨c, h1, h2, h3.mono g.sub⟩ }
  · rcases g.new a o e with q | q
    · exact x.zw a o q
    · cases r : W a with
      | none => rfl
      | some o' => rw [x.w a o' r] at q; cases q
  · obtain ⟨h1, h2⟩ := x.off a ow
    refine ⟨?_, h2⟩
    cases r : Z' a with
    | none => rfl
    | some o =>
      obtain ⟨ob, e⟩ := ow.there x
      rcases g.new a o r with q | q
      · rw [h1] at q; cases q
      · rw [e] at q; cases q
  · obtain ⟨ol, es, ep, e, d, rr⟩ := hm
    exact ⟨ol, es, ep, up _ _ (nl e (fun _ r => by rw [d] at r; cases r)) e, d, rr⟩
  · obtain ⟨w, hw, r⟩ := hv z u e
    refine VarR.keep (h := h) ⟨w, hw.mono g.sub, r⟩ fun c2 u2 hcell hl => ?_
    obtain ⟨ob', r3, r4⟩ := hcell
    exact ⟨ob', up _ _ (nl r3 (fun _ r => by rw [r4] at r; cases r)) r3, r4⟩
  · obtain ⟨vs, n, e, rr⟩ := x.own p hp
    exact ⟨vs, n, up _ _ (nl e (fun _ r => by cases r)) e, rr.mono g.sub⟩
  · obtain ⟨c2, v, h1, h2, ob', h3, h4⟩ := x.cells z hz
    exact ⟨c2, v, h1, h2, ob', up _ _ (nl h3 (fun _ r => by rw [h4] at r; cases r)) h3, h4⟩
  · obtain ⟨ps', e, rr⟩ := x.tab r hr
    by_cases s : r.2.1 = q.2.1
    · have : r = q := by
        have nd := x.tnd
        generalize X.tabs = l at hr hq nd
        induction l with
        | nil => cases hr
        | cons y l ih =>
          have nd2 := List.nodup_cons.mp nd
          rcases List.mem_cons.mp hr with rfl | hr'
          · rcases List.mem_cons.mp hq with rfl | hq'
            · rfl
            · exact absurd (by show r.2.1 ∈ _; rw [s]; exact List.mem_map_of_mem (f := (·.2.1)) hq') nd2.1
          · rcases List.mem_cons.mp hq with rfl | hq'
            · exact absurd (by show q.2.1 ∈ _; rw [← s]; exact List.mem_map_of_mem (f := (·.2.1)) hr') nd2.1
            · exact ih hr' hq' nd2.2
      subst this
      exact ⟨ps, hn, ht⟩
    · exact ⟨ps', up _ _ s e, rr.mono g.sub⟩

/-- what the lambdas need of the globals -/
structure GlLam (G : Gl) : Prop where
  bm : ∃ mg bm ob, PNs G.Z0 mainGlobals mg ∧ mg "__builtins__" = some (.ref bm) ∧ bm ≠ builtinsNs ∧ bm ≠ mainGlobals ∧ G.Z0 bm = some ob ∧ ob.cls = .type "module" ∧ ob.dict = some builtinsNs ∧ ob.data = .plain

theorem E_lambda (gl : GlLam G) {params : Arguments} {body : Expr} {scope : Scope} {pos : Pos} {c P : Addr} {clos : List (Str × Addr)} {caps : List (Str × Value)} {Pst : Sg → AV → Prop} (hq : (c, P, X.env.qual ++ "<lambda>") ∈ X.tabs) (hc : X.env.code = .ref c)
    (hd : ∀ h, PIn G.Z0 h → CodeHd h c P) (hcl : closureFor scope X.env = pure clos) (hcap : ∀ y v, caps.lookup y = some v → (y, v) ∈ X.fz ∧ clos.lookup y = X.env.cells.lookup y) (hdef : defaultsOf params X.env = ([], []))
    (hp : Pst σ (.lam params body scope (X.env.qual ++ "<lambda>") caps)) : EJ G A X ρ σ (eval (.Lambda params body scope pos) X.env) Pst := fun W Z s E z st => by
  obtain ⟨mg, bm, ob, hmg, b1, b2, b3, b4, b5, b6, b7⟩ := gl.bm
  obtain ⟨offZ, offW⟩ := st.off _ (.tab hq)
  obtain ⟨ps, hP, hps, hcode⟩ := st.tab _ hq
  have zg : PIn G.Z0 s.heap := fun a o e => st.z _ _ (z.sub _ _ e)
  have nP : ∀ b o, G.Z0 b = some o → b ≠ P := fun b o e r => by
    have := z.sub _ _ e
    rw [r] at this
    have offZ' : Z P = none := offZ
    rw [offZ'] at this; cases this
  have hgP : mainGlobals ≠ P := by obtain ⟨o, _, _, e, _⟩ := hmg; exact nP _ _ e
  have BA : s.heap.BuiltinsAt mg P := ⟨bm, ob, b1, b2, b3, nP _ _ b4, zg _ _ b4, b5, b6, b7⟩
  have ge : X.env.globals = mainGlobals := st.gl
  refine kla_eval hdef ?_
  have fzc : ∀ {Z' : PH}, PSub Z Z' → ∀ y v, caps.lookup y = some v → ∃ c, clos.lookup y = some c ∧ PCell Z' c v := fun k y v e => by
    obtain ⟨h1, h2⟩ := hcap y v e
    obtain ⟨cc, h3, _, h4⟩ := st.frz _ h1
    exact ⟨cc, h2.trans h3, h4.mono k⟩
  cases hit : codeAmong pos ps.toList with
  | some cv =>
    refine kla_makeFunctionHit hcl ge (hmg.at zg) hc (hd _ zg) hP hps hit BA fun ctv h' tk hk hsz => ?_
    have kp : ∀ b o, s.heap.get? b = some o → (h'.push ⟨.type "function", none, .func (kla_fn "<lambda>" (X.env.qual ++ "<lambda>") params body scope clos ((mg "__name__").getD .none) cv ctv), #[]⟩).get? b = some o := fun b o e => Heap.get?_push_of_some _ (hk b o e)
    have g' := Zp.grow (Z := Z) (o := ⟨.type "function", none, .func (kla_fn "<lambda>" (X.env.qual ++ "<lambda>") params body scope clos ((mg "__name__").getD .none) cv ctv), #[]⟩) st.z kp (Heap.get?_push_size _ rfl) (none_ge hsz)
    refine ⟨⟨_, _, rfl⟩, _, σ, _, g'.sub, st.grow kp g', .lam Zp.self ((hcode _ _ hit).mono g'.sub) (fzc g'.sub), hp⟩
  | none =>
    refine kla_makeFunction hcl ge (hmg.at zg) hc (hd _ zg) hP hps hit hgP BA fun c' ctv h' tk hx hge hlt hrec htb => ?_
    obtain ⟨c2, oc, vs, tq, hc2, hoc, hdc, hqv⟩ := hrec
    cases hc2
    have hPlt : P < s.heap.objs.size := Heap.lt_size hP
    have hc'P : c' ≠ P := fun r => by subst r; exact absurd hPlt (Nat.not_lt.mpr hge)
    -- the heap with the code and the table, then the function
    have gA : Grow Z (Zp Z c' oc) s.heap h' := by
      refine ⟨Zp.sub st.z (none_ge hge), fun b o q => ?_, fun b o q => ?_⟩
      · unfold Zp at q
        by_cases r : b = c'
        · subst r; rw [if_pos rfl] at q; cases q; exact hoc
        · rw [if_neg r] at q
          exact hx b o (fun r => by subst r; rw [show Z b = none from offZ] at q; cases q) (st.z b o q)
      · unfold Zp at q
        by_cases r : b = c'
        · subst r; exact .inr (none_ge hge)
        · rw [if_neg r] at q; exact .inl q
    have pc : PCode (Zp Z c' oc) (.ref c') (X.env.qual ++ "<lambda>") := ⟨c', oc, vs, tq, rfl, Zp.self, hdc, hqv⟩
    have inv : TabInv (Zp Z c' oc) (ps ++ #[rawInt pos.line, rawInt pos.col, .ref c']) (X.env.qual ++ "<lambda>") := by
      have el : (ps ++ #[rawInt pos.line, rawInt pos.col, .ref c']).toList = ps.toList ++ [rawInt pos.line, rawInt pos.col, .ref c'] := by simp
      refine ⟨by rw [el]; exact TriplesOk_snoc _ _ _ _ hps, fun p2 cv e => ?_⟩
      rw [el] at e
      have key : ∀ l : List Value, codeAmong p2 (l ++ [rawInt pos.line, rawInt pos.col, .ref c']) = some cv → TriplesOk l → codeAmong p2 l = some cv ∨ cv = .ref c' := by
        intro l
        fun_induction TriplesOk l with
        | case1 => intro e _; simp only [List.nil_append, rawInt, codeAmong] at e; split at e <;> first | (cases e; exact .inr rfl) | cases e
        | case2 a t b u x rest ih =>
          intro e hl
          simp only [List.cons_append, codeAmong] at e ⊢
          by_cases hcnd : (a == ↑p2.line && b == ↑p2.col) = true
          · rw [if_pos hcnd] at e ⊢; exact .inl e
          · rw [if_neg hcnd] at e ⊢; exact ih e hl
        | case3 l h1 h2 => intro _ hl; exact hl.elim
      rcases key _ e hps with r | r
      · exact (hcode _ _ r).mono gA.sub
      · subst r; exact pc
    have st0 : St X W (Zp Z c' oc) ρ σ h' := St.setTab st hq (fun b o r e => hx b o r e) htb gA inv
    have kp : ∀ b o, h'.get? b = some o → (h'.push (kla_obj "<lambda>" (X.env.qual ++ "<lambda>") params body scope clos ((mg "__name__").getD .none) c' ctv)).get? b = some o := fun b o e => Heap.get?_push_of_some _ e
    have g' := Zp.grow (Z := Zp Z c' oc) (o := kla_obj "<lambda>" (X.env.qual ++ "<lambda>") params body scope clos ((mg "__name__").getD .none) c' ctv) gA.inn kp (Heap.get?_push_size _ rfl) (none_ge (Nat.le_refl _))
    exact ⟨⟨_, _, rfl⟩, _, σ, _, gA.sub.trans g'.sub, st0.grow kp g', .lam Zp.self (pc.mono g'.sub) (fzc (gA.sub.trans g'.sub)), hp⟩
end
end PL

namespace PL
section
variable {G : Gl} {K : Frag} {A : Around} {env : Env} {ρ : Vars} {X : Fx} {σ : Sg} {Post : Out → Prop}

/-- a call of a thing with things -/
def CallOk (G : Gl) (A : Around) (f : AV) (xs : List AV) (R : PH → Value → Prop) : Prop :=
  ∀ (Z : PH) (s : Shared) (E : Value → Shared → Prop) (v : Value) (vs : List Value), Bs G Z s → PIn Z s.heap → VR Z f v → VRs Z xs vs → wpAny (model G.prog G.w) A (call v vs) (PPost Z s R) E s
theorem COk.callOk {f : Value} {xs : List AV} {R : PH → Value → Prop} (h : COk G A f xs R) : CallOk G A (.val f) xs R := fun Z s E v vs z i r rs => by
  cases r.valInv; exact h Z s E vs z i rs

abbrev lamEnv (scope : Scope) (L a : Addr) (clos : List (Str × Addr)) (qual : Str) (cd : Value) : Env := newEnv scope L mainGlobals clos (qual ++ ".<locals>.") (some a) cd none builtinsNs

theorem c_lam (g : GlOk G K) {params : Arguments} {body : Expr} {scope : Scope} {qual : Str} {caps : List (Str × Value)} {x : Str} {u : AV} {ρc : Vars} {R : PH → Value → Prop} (hr : Room 1 A)
    (hbind : ∀ (fd : FuncData) (v : Value), fd.params = params → fd.defaults = .none → fd.kwdefaults = .none → bindArgs fd ⟨[v], []⟩ = pure [(x, v)])
    (hnc : ∀ y ∈ scope.names, y.2 ≠ .cell) (hx : scope.names.lookup x = some .local)
    (hcaps : ∀ y w, ρc.lookup y = some w → scope.names.lookup y = some .free ∧ ∃ v, caps.lookup y = some v ∧ ∀ Z, VR Z w v)
    (hbody : ∀ L a clos cd, PW G (A.deeper (lamEnv scope L a clos qual cd)) (lamEnv scope L a clos qual cd) ((x, u) :: ρc) (eval body (lamEnv scope L a clos qual cd)) R)
    (hco : scope.isCoroutine = false := by rfl) (hgen : scope.isGenerator = false := by rfl) (hk : scope.kind = .function := by rfl) :
    CallOk G A (.lam params body scope qual caps) [u] R := fun Z s E v vs z i r rs => by
  cases rs with
  | cons ru rs =>
    cases rs
    rename_i w
    cases r with
    | lam ho hc hcl =>
      rename_i a clos doc pm cv ctv name
      obtain ⟨c, oc, vs, tq, rfl, e1, e2, e3⟩ := hc
      refine wpAny_call (kla_callFunE (Nat.lt_of_le_of_lt (Nat.le_add_right _ _) hr.depth) (i _ _ ho) rfl hco hgen rfl ⟨c, oc, vs, tq, rfl, i _ _ e1, e2, e3⟩ ?_)
      rw [hbind _ w rfl rfl rfl]
      refine wpAny_pure (wpAny_newFunctionEnv hnc (fun y hy => by rw [List.mem_singleton.mp hy]; exact hx) (fun h' hns hsb => ?_) hk)
      have kp : ∀ b o, s.heap.get? b = some o → h'.get? b = some o := fun b o e => hsb.extBut b o (Nat.ne_of_lt (Heap.lt_size e)) (Heap.get?_push_of_some _ e)
      refine ⟨(g.lim z.sub i).keeps kp, kla_codeExpr ?_⟩
      have i1 : PIn Z h' := fun a o e => kp _ _ (i a o e)
      have z1 : Bs G Z { s with heap := h', toks := s.toks + [(x, w)].length } := ⟨z.sub, Nat.lt_of_lt_of_le z.tok (Nat.le_add_right _ _)⟩
      have fm : FmR Z (lamEnv scope s.heap.objs.size a clos qual (.ref c)) ((x, u) :: ρc) h' := by
        refine ⟨hk, rfl, rfl, _, hns, fun y t e => ?_⟩
        rw [lookup_cons_if] at e
        by_cases q : y = x
        · subst q
          rw [if_pos rfl] at e; cases e
          exact ⟨w, ru, .inl ⟨hx, by simp⟩⟩
        · rw [if_neg q] at e
          obtain ⟨h1, v, h2, h3⟩ := hcaps y t e
          obtain ⟨cc, h4, o, h5, h6⟩ := hcl y v h2
          exact ⟨v, h3 Z, .inr ⟨.inr h1, cc, h4, o, i1 _ _ h5, h6⟩⟩
      refine (hbody _ _ _ _).seq z1 i1 fm fun v2 s2 Z2 k2 g2 r2 z2 f2 => ?_
      have ks : Keeps s { s with heap := h', toks := s.toks + [(x, w)].length } := keeps_of kp
      exact PPost.trans ks (Grow.refl (s' := { s with heap := h', toks := s.toks + [(x, w)].length }) i ks) ⟨k2, Z2, g2, r2⟩

/-- a thing that calls let be called -/
def CwOk (G : Gl) (A : Around) (f : AV) : Prop := ∀ (Z : PH) (s : Shared) (E : Value → Shared → Prop) (v : Value) (env : Env) (pos : Pos) (e : Expr) (es : List Expr) (Q : Value → Shared → Prop), PSub G.Z0 Z → VR Z f v →
  wpAny (model G.prog G.w) A (spliced (backTo pos (starEach (e :: es) env))) (fun vs s1 => ∃ Z1, PSub Z Z1 ∧ PIn Z1 s1.heap ∧ wpAny (model G.prog G.w) A (call v vs) Q E s1) E s →
  starEach (e :: es) env = (false, eval e env) :: starEach es env → (backTo pos (starEach es env)).any (·.1) = false →
  wpAny (model G.prog G.w) A (callWith pos v [] (backTo pos (starEach (e :: es) env)) []) Q E s
theorem cw_val (g : GlOk G K) {v : Value} (hk : keepIn K v = true) : CwOk G A (.val v) := fun Z s E w env pos e es Q z r h he hp => by
  cases r.valInv
  refine callWith_of (P := K.In) (by rw [he]; show ((false || (backTo pos (starEach es env)).any (·.1)) || false) = false; rw [hp]; rfl) (keeps_K hk) ?_
  rw [he] at h ⊢
  exact PySem.Calls.evalArgs_plain (wpAny_mono h (fun vs s1 ⟨Z1, k, i, c⟩ => ⟨g.kin (z.trans k) i, c⟩) fun _ _ e => e)
theorem cw_lam {params : Arguments} {body : Expr} {scope : Scope} {qual : Str} {caps : List (Str × Value)} : CwOk G A (.lam params body scope qual caps) := fun Z s E w env pos e es Q z r h he hp => by
  cases r with
  | lam ho hc hcl => exact callWith_def (fd := _) rfl (wpAny_mono h (fun vs s1 ⟨Z1, k, i, c⟩ => ⟨i _ _ (k _ _ ho), c⟩) fun _ _ e => e) he

/-- a call of a name with a callable thing -/
theorem PW_callV {f : Str} {p pos : Pos} {fa : AV} {e : Expr} {es : List Expr} {xs : List AV} {R : PH → Value → Prop} (hf : PE G A env ρ (.Name f p) fa) (hw : CwOk G A fa) (ha : PS G A env ρ (e :: es) xs)
    (hc : CallOk G A fa xs R) (he : starEach (e :: es) env = (false, eval e env) :: starEach es env := by rfl) (hp : (backTo pos (starEach es env)).any (·.1) = false := by rfl) :
    PW G A env ρ (eval (.Call (.Name f p) (e :: es) [] pos) env) R := fun Z s E z0 i f =>
  Call_ (hf.seq z0 i f fun u s1 Z1 k1 g1 r1 z1 f1 => by
    refine hw Z1 s1 E u env pos e es _ z1.sub r1 ((ha pos).seq z1 g1.inn f1 fun vs s2 Z2 k2 g2 r2 z2 f2 => ⟨Z2, g2.sub, g2.inn, ?_⟩) he hp
    exact wpAny_mono (hc Z2 s2 E u vs z2 g2.inn (r1.mono g2.sub) r2) (fun _ _ p => (p.trans k2 g2).trans k1 g1) fun _ _ e => e)
end
end PL

namespace PL
section
variable {G : Gl} {K : Frag} {A : Around} {env : Env} {ρ : Vars} {X : Fx} {σ σ' : Sg} {Post : Out → Prop}

/-- an own list put anew by another, the heap grown -/
theorem St.backL {W Z Z' : PH} {h h' : Heap} (x : St X W Z ρ σ h) {a : Addr} {xs ys : List AV} {vs : Array Value} {n : Nat} (p : PutL a xs ys σ σ') (up : ∀ b o, b ≠ a → h.get? b = some o → h'.get? b = some o) (g : Grow Z Z' h h') (hn : h'.get? a = some (listO vs n)) (r : VRs Z' ys vs.toList) : St X W Z' ρ σ' h' := by
  have offa := x.off a (.lst p.mem)
  obtain ⟨vs0, n0, ea, _⟩ := x.own _ p.mem
  have nl : ∀ {b : Addr} {o : Obj}, h.get? b = some o → (∀ v n, o.data ≠ .seq v n) → b ≠ a := fun e d q => by
    subst q; rw [ea] at e; cases e; exact d _ _ rfl
  obtain ⟨m, hm, hv⟩ := x.vars
  refine { z := g.inn, w := fun b o e => up b o (fun q => by rw [q, offa.2] at e; cases e) (x.w b o e), zw := fun b o e => ?_, off := fun b o => ?_, kind := x.kind, gl := x.gl, bi := x.bi,
           vars := ⟨m, ?_, fun z u e => ?_⟩, own := fun q hq => ?_, nd := by rw [p.map]; exact x.nd, cells := fun z hz => ?_, cnd := x.cnd, tab := fun q hq => ?_, tnd := x.tnd, frz := fun p hp => let ⟨c, h1, h2, h3⟩ := x.frz p hp; ⟨c, h1, h2, h3.mono g.sub⟩ }
  · rcases g.new b o e with q | q
    · exact x.zw b o q
    · cases r : W b with
      | none => rfl
      | some o' => rw [x.w b o' r] at q; cases q
  · have ow := o.put p
    obtain ⟨h1, h2⟩ := x.off b ow
    refine ⟨?_, h2⟩
    cases r : Z' b with
    | none => rfl
    | some o =>
      obtain ⟨ob, e⟩ := ow.there x
      rcases g.new b o r with q | q
      · rw [h1] at q; cases q
      · rw [e] at q; cases q
  · obtain ⟨ol, es, ep, e, d, rr⟩ := hm
    exact ⟨ol, es, ep, up _ _ (nl e (fun _ _ q => by rw [d] at q; cases q)) e, d, rr⟩
  · obtain ⟨w, hw, r⟩ := hv z u e
    refine VarR.keep (h := h) ⟨w, hw.mono g.sub, r⟩ fun c2 u2 hcell hl => ?_
    obtain ⟨ob', r3, r4⟩ := hcell
    exact ⟨ob', up _ _ (nl r3 (fun _ _ q => by rw [r4] at q; cases q)) r3, r4⟩
  · rcases p.back x.nd q hq with rfl | ⟨hq, hne⟩
    · exact ⟨vs, n, hn, r⟩
    · obtain ⟨vs, n, e, rr⟩ := x.own q hq
      exact ⟨vs, n, up _ _ hne e, rr.mono g.sub⟩
  · obtain ⟨c2, v, h1, h2, ob', h3, h4⟩ := x.cells z hz
    exact ⟨c2, v, h1, h2, ob', up _ _ (nl h3 (fun _ _ q => by rw [h4] at q; cases q)) h3, h4⟩
  · obtain ⟨ps, e, rr⟩ := x.tab q hq
    exact ⟨ps, up _ _ (nl e (fun _ _ q => by cases q)) e, rr.mono g.sub⟩

/-- a call that changes one list of the caller -/
def LendOk (G : Gl) (A : Around) (f : Value) (a : Addr) (xs : List AV) (rest : List AV) (ks : List (Str × AV)) (ys : List AV) (R : AV) : Prop :=
  ∀ (Z : PH) (s : Shared) (E : Value → Shared → Prop) (vs : List Value) (kvs : List Value) (us : Array Value) (n : Nat), Bs G Z s → PIn Z s.heap → Z a = none → s.heap.get? a = some (listO us n) → VRs Z xs us.toList → VRs Z rest vs → VRs Z (ks.map (·.2)) kvs →
    wpAny (model G.prog G.w) A (call f (.ref a :: vs) ((ks.map (·.1)).zip kvs)) (fun v s' => ∃ Z' us' n', VR Z' R v ∧ Ext s s' ∧ (∀ b o, b ≠ a → s.heap.get? b = some o → s'.heap.get? b = some o) ∧ Grow Z Z' s.heap s'.heap ∧ s'.heap.get? a = some (listO us' n') ∧ VRs Z' ys us'.toList) E s

theorem EPost_of_lend {W Z : PH} {s s' : Shared} {a : Addr} {xs ys : List AV} {P : Sg → AV → Prop} {R : AV} {v : Value} (st : St X W Z ρ σ s.heap) (p : PutL a xs ys σ σ') (hP : P σ' R)
    (h : ∃ Z' us' n', VR Z' R v ∧ Ext s s' ∧ (∀ b o, b ≠ a → s.heap.get? b = some o → s'.heap.get? b = some o) ∧ Grow Z Z' s.heap s'.heap ∧ s'.heap.get? a = some (listO us' n') ∧ VRs Z' ys us'.toList) : EPost X W Z ρ s P v s' := by
  obtain ⟨Z', us', n', h1, h2, h3, h4, h5, h6⟩ := h
  exact ⟨h2, Z', σ', R, h4.sub, st.backL p h3 h4 h5 h6, h1, hP⟩

/-- pure in a state with lists of its own -/
def SWj {α : Type} (G : Gl) (A : Around) (X : Fx) (ρ : Vars) (σ : Sg) (t : Sem α) (R : PH → α → Prop) : Prop :=
  ∀ (W Z : PH) (s : Shared) (E : Value → Shared → Prop), Bs G Z s → St X W Z ρ σ s.heap → wpAny (model G.prog G.w) A t (PPost Z s R) E s
theorem PW.sw {α : Type} {t : Sem α} {R : PH → α → Prop} (h : PW G A X.env ρ t R) : SWj G A X ρ σ t R := fun W Z s E z st => h Z s E z st.z st.fm
theorem SWj.seq {α : Type} {t : Sem α} {R : PH → α → Prop} {W Z : PH} {s : Shared} {E : Value → Shared → Prop} {Q : α → Shared → Prop} (h : SWj G A X ρ σ t R) (z : Bs G Z s) (st : St X W Z ρ σ s.heap)
    (k : ∀ v s1 Z1, Keeps s s1 → Grow Z Z1 s.heap s1.heap → R Z1 v → Bs G Z1 s1 → St X W Z1 ρ σ s1.heap → Q v s1) : wpAny (model G.prog G.w) A t Q E s :=
  wpAny_mono (wpAny_toks (h W Z s E z st)) (fun v s1 p => let ⟨k1, Z1, g, r⟩ := p.2; k v s1 Z1 k1 g r ⟨z.sub.trans g.sub, Nat.lt_of_lt_of_le z.tok p.1⟩ (st.grow (kk k1) g)) fun _ _ e => e.2

open Classical in
noncomputable def Zu (Z' : PH) (σ : Sg) : PH := fun b => if b ∈ σ.map (·.1) then none else Z' b
theorem Zu.one {W Z Z' : PH} {h : Heap} (x : St X W Z ρ σ h) (k : PSub (Zv Z σ h) Z') {y : AV} {v : Value} (r : VR Z' y v) (o : oneAV y = true) : VR (Zu Z' σ) y v := by
  have key : ∀ b ob, Z' b = some ob → (∀ vs n, ob.data ≠ .seq vs n) → Zu Z' σ b = some ob := fun b ob e d => by
    unfold Zu
    by_cases q : b ∈ σ.map (·.1)
    · exfalso
      obtain ⟨p, hp, rfl⟩ := List.mem_map.mp q
      obtain ⟨vs, n, e2, _⟩ := x.own p hp
      have : Zv Z σ h p.1 = some (listO vs n) := by unfold Zv; rw [if_pos q]; exact e2
      have := k _ _ this
      rw [e] at this; cases this
      exact d _ _ rfl
    · rw [if_neg q]; exact e
  cases r <;> first | exact .none | exact .bool | exact .int | exact .str | (exfalso; revert o; decide) | (simp [oneAV] at o; done) | skip
  rename_i e1 e2
  exact .qn (key _ _ e1 (by intro _ _ q; cases q)) (key _ _ e2 (by intro _ _ q; cases q))
/-- the words of arguments that are read with the own lists as if frozen -/
theorem SW_view {es : List Expr} {xs : List AV} {ρ' : Vars} {pos : Pos} (v : ViewOk ρ σ ρ') (h : PS G A X.env ρ' es xs) (o : ∀ x ∈ xs, oneAV x = true) : SWj G A X ρ σ (spliced (backTo pos (starEach es X.env))) fun Z vs => VRs Z xs vs := fun W Z s E z0 st => by
  obtain ⟨h1, h2, h3⟩ := Zv.fm st v
  refine wpAny_mono (h pos _ s E ⟨z0.sub.trans h1, z0.tok⟩ h2 h3) (fun vs s' q => ?_) fun _ _ e => e
  obtain ⟨k, Z', g, r⟩ := q
  have far : ∀ b, b ∉ σ.map (·.1) → Zu Z' σ b = Z' b := fun b n => by unfold Zu; rw [if_neg n]
  have noZ : ∀ b o, Z b = some o → b ∉ σ.map (·.1) := fun b o e q => by
    obtain ⟨p, hp, rfl⟩ := List.mem_map.mp q
    rw [(st.off _ (.lst hp)).1] at e; cases e
  refine ⟨k, Zu Z' σ, ⟨fun b o e => ?_, fun b o e => ?_, fun b o e => ?_⟩, ?_⟩
  · rw [far b (noZ b o e)]
    exact g.sub _ _ (h1 b o e)
  · unfold Zu at e
    split at e
    · cases e
    · exact g.inn _ _ e
  · unfold Zu at e
    split at e
    · cases e
    · rename_i n
      rcases g.new b o e with q | q
      · unfold Zv at q
        rw [if_neg n] at q
        exact .inl q
      · exact .inr q
  · clear h
    induction r with
    | nil => exact .nil
    | cons r rs ih => exact .cons (Zu.one st g.sub r (o _ (.head _))) (ih fun x hx => o x (.tail _ hx))

/-- f(l, ..): a list of the frame's own lent; no keywords -/
theorem E_lend (g : GlOk G K) {f l : Str} {fp lp pos : Pos} {v : Value} {a : Addr} {es : List Expr} {xs : List AV} {R : AV} {P : Sg → AV → Prop} (hf : PE G A X.env ρ (.Name f fp) (.val v)) (hk : keepIn K v = true) (hl : ρ.lookup l = some (.ref a)) (hm : (a, xs) ∈ σ)
    (ha : SWj G A X ρ σ (spliced (backTo pos (starEach es X.env))) fun Z vs => ∃ rest ys σ', VRs Z rest vs ∧ PutL a xs ys σ σ' ∧ LendOk G A v a xs rest [] ys R ∧ P σ' R)
    (he : starEach (.Name l lp :: es) X.env = (false, eval (.Name l lp) X.env) :: starEach es X.env := by rfl) (hp : (backTo pos (starEach es X.env)).any (·.1) = false := by rfl) (hd : (l == ("__debug__" : Str)) = false := by decide) (hc : (l == ("__classdict__" : Str)) = false := by decide) :
    EJ G A X ρ σ (eval (.Call (.Name f fp) (.Name l lp :: es) [] pos) X.env) P := fun W Z s E z st =>
  Call_ (hf.seq z st.z st.fm fun u s1 Z1 k1 g1 r1 z1 f1 => by
    cases r1.valInv
    refine callWith_K (g.kin z1.sub g1.inn) hk (args_cons ((PE_name (G := G) (A := A) (env := X.env) (pos := lp) hl hd hc).seq z1 g1.inn f1 fun w s2 Z2 k2 g2 r2 z2 f2 => ha.seq z2 ((st.grow (kk k1) g1).grow (kk k2) g2) fun vs s3 Z3 k3 g3 r3 z3 st3 => ⟨g.kin z3.sub g3.inn, ?_⟩) he) he hp
    cases r2.refInv
    obtain ⟨rest, ys, σ', hr, hput, hle, hP⟩ := r3
    obtain ⟨us, n, e1, e2⟩ := st3.own _ hm
    refine wpAny_mono (hle Z3 s3 E vs [] us n z3 g3.inn (st3.off _ (.lst hm)).1 e1 e2 hr .nil) (fun v' s' h => ?_) fun _ _ e => e
    obtain ⟨e3, Z4, σ4, x4, q1, q2, q3, q4⟩ := EPost_of_lend st3 hput hP h
    exact ⟨(((Ext.ofKeeps k1).trans (.ofKeeps k2)).trans (.ofKeeps k3)).trans e3, Z4, σ4, x4, ((g1.sub.trans g2.sub).trans g3.sub).trans q1, q2, q3, q4⟩)
theorem Call_kws {x : Str} {p pos : Pos} {args : List Expr} {kws : List Keyword} {M : Model} {E : Value → Shared → Prop} {s : Shared} {Q : Value → Shared → Prop}
    (h : wpAny M A (eval (.Name x p) env) (fun f s₁ => wpAny M A (callWith pos f [] (backTo pos (starEach args env)) (backToKw pos (keywordEach kws env))) Q E s₁) E s) :
    wpAny M A (eval (.Call (.Name x p) args kws pos) env) Q E s := by
  show wpAny M A (do callWith pos (← eval (.Name x p) env) [] (backTo pos (starEach args env)) (backToKw pos (keywordEach kws env))) Q E s
  exact wpAny_bind h
/-- the same with a keyword -/
theorem E_lendK (g : GlOk G K) {f l kn : Str} {fp lp kp pos : Pos} {v : Value} {a : Addr} {es : List Expr} {ke : Expr} {xs rest ys : List AV} {kx R : AV} {P : Sg → AV → Prop} (hf : PE G A X.env ρ (.Name f fp) (.val v)) (hk : keepIn K v = true) (hl : ρ.lookup l = some (.ref a)) (hm : (a, xs) ∈ σ)
    (ha : SWj G A X ρ σ (spliced (backTo pos (starEach es X.env))) fun Z vs => VRs Z rest vs) (hke : EJ G A X ρ σ (eval ke X.env) fun σ1 k => σ1 = σ ∧ k = kx) (hput : PutL a xs ys σ σ') (hle : LendOk G A v a xs rest [(kn, kx)] ys R) (hP : P σ' R)
    (he : starEach (.Name l lp :: es) X.env = (false, eval (.Name l lp) X.env) :: starEach es X.env := by rfl) (hp : (backTo pos (starEach es X.env)).any (·.1) = false := by rfl)
    (hkw : keywordEach [⟨some kn, ke, kp⟩] X.env = [(some kn, eval ke X.env)] := by rfl)
    (hd : (l == ("__debug__" : Str)) = false := by decide) (hc : (l == ("__classdict__" : Str)) = false := by decide) :
    EJ G A X ρ σ (eval (.Call (.Name f fp) (.Name l lp :: es) [⟨some kn, ke, kp⟩] pos) X.env) P := fun W Z s E z st =>
  Call_kws (hf.seq z st.z st.fm fun u s1 Z1 k1 g1 r1 z1 f1 => by
    cases r1.valInv
    have hq : backToKw pos (keywordEach [⟨some kn, ke, kp⟩] X.env) = [(some kn, do let v ← eval ke X.env; standAt pos; pure v)] := by rw [hkw]; rfl
    have nst : (backTo pos (starEach (.Name l lp :: es) X.env)).any (·.1) = false := by
      rw [he]; show (false || (backTo pos (starEach es X.env)).any (·.1)) = false; rw [hp]; rfl
    refine callWith_KW (env := X.env) (kws := [⟨some kn, ke, kp⟩]) (e := .Name l lp) (rest := es) (first := []) (g.kin z1.sub g1.inn) hk ?_ ?_ ?_ he
    · rw [hq]; rfl
    · refine args_cons ?_ he
      refine (PE_name (G := G) (A := A) (env := X.env) (pos := lp) hl hd hc).seq z1 g1.inn f1 fun w s2 Z2 k2 g2 r2 z2 f2 => ha.seq z2 ((st.grow (kk k1) g1).grow (kk k2) g2) fun vs s3 Z3 k3 g3 r3 z3 st3 => ?_
      rw [hq]
      cases r2.refInv
      refine wpAny_evalAll_cons (wpAny_bind (hke.seq z3 st3 fun kv s4 Z4 σ4 x4 e4 k4 z4 st4 r4 p4 => wpAny_bind (wpAny_standAt (wpAny_pure (wpAny_evalAll_nil ⟨g.kin z4.sub st4.z, ?_⟩)))))
      obtain ⟨rfl, rfl⟩ := p4
      obtain ⟨us, n, e1, e2⟩ := st4.own _ hm
      refine wpAny_mono (hle Z4 s4 E vs [kv] us n z4 st4.z (st4.off _ (.lst hm)).1 e1 e2 (r3.mono k4) (.cons r4 .nil)) (fun v' s' h => ?_) fun _ _ e => e
      obtain ⟨e3, Z5, σ5, x5, q1, q2, q3, q4⟩ := EPost_of_lend st4 hput hP h
      exact ⟨((((Ext.ofKeeps k1).trans (.ofKeeps k2)).trans (.ofKeeps k3)).trans e4).trans e3, Z5, σ5, x5, (((g1.sub.trans g2.sub).trans g3.sub).trans k4).trans q1, q2, q3, q4⟩
    · rw [nst, hq]; rfl)
end
end PL

namespace PL
section
variable {G : Gl} {K : Frag} {A : Around} {env : Env} {ρ : Vars} {X : Fx} {σ σ' : Sg} {Post : Out → Prop}

theorem lookup_append_none {α : Type} {y : Str} : ∀ {l r : List (Str × α)}, l.lookup y = none → (l ++ r).lookup y = r.lookup y := fun {l r} h => by rw [List.lookup_append, h]; rfl
theorem lookup_cons_if' {α : Type} {y z : Str} {u : α} {r : List (Str × α)} : List.lookup y ((z, u) :: r) = if y = z then some u else r.lookup y := by
  rw [List.lookup_cons]
  cases q : y == z with
  | true => rw [if_pos (eq_of_beq q)]
  | false => rw [if_neg (fun e => by rw [e] at q; simp at q)]
theorem lookup_zip_none {α : Type} {y : Str} : ∀ {ps : List Str} {vs : List α}, y ∉ ps → (ps.zip vs).lookup y = none
  | [], _, _ => by simp
  | _ :: _, [], _ => by simp
  | p :: ps, v :: vs, h => by
    have hy : ¬ y = p := fun e => h (e ▸ List.mem_cons_self ..)
    rw [List.zip_cons_cons, lookup_cons_if', if_neg hy]
    exact lookup_zip_none fun m => h (List.mem_cons_of_mem _ m)
theorem lookup_rev_zip {y : Str} : ∀ {ps : List Str} {vs : List Value}, ps.Nodup → vs.length = ps.length → (ps.zip vs).reverse.lookup y = (ps.zip vs).lookup y
  | [], [], _, _ => rfl
  | p :: ps, v :: vs, nd, hl => by
    have nd2 := List.nodup_cons.mp nd
    have ih := lookup_rev_zip (y := y) nd2.2 (by simpa using hl : vs.length = ps.length)
    rw [List.zip_cons_cons, List.reverse_cons, List.lookup_append, ih, List.lookup_cons, List.lookup_cons]
    cases q : y == p with
    | false => cases (ps.zip vs).lookup y <;> rfl
    | true =>
      have : (ps.zip vs).lookup y = none := lookup_zip_none (eq_of_beq q ▸ nd2.1)
      rw [this]; rfl
theorem BindsR.zip {Z : PH} {ps : List Str} : ∀ {xs : List AV} {vs : List Value}, ps.Nodup → VRs Z xs vs → vs.length = ps.length → BindsR Z (ps.zip vs) (ps.zip xs) := fun {xs vs} nd h hl y u e => by
  rw [lookup_rev_zip nd hl]
  clear nd
  induction h generalizing ps with
  | nil => cases ps <;> simp at e
  | cons h hs ih =>
    rename_i x v xs vs
    cases ps with
    | nil => simp at e
    | cons p ps =>
      rw [List.zip_cons_cons, lookup_cons_if'] at e ⊢
      by_cases q : y = p
      · rw [if_pos q] at e ⊢; cases e; exact ⟨v, rfl, h⟩
      · rw [if_neg q] at e ⊢; exact ih (by simpa using hl) e

/-- a def of the text called with its own words -/
theorem fn_ok (g : GlOk G K) {f : Addr} {qual : Str} {params : Arguments} {body : List Stmt} {scope : Scope} {dV kV cd : Value} (F : FnK K f qual params body scope dV kV cd) (ps : List Str) {xs : List AV} {n : Nat} {P : AV → Prop}
    (hb : ∀ S vs, vs.length = ps.length → peek K S (bindArgs (bare qual params body scope dV kV cd) ⟨vs, []⟩) = some (ps.zip vs)) (hr : Room (n + 1) A) (mc : List Str) (hl : xs.length = ps.length)
    (hbody : ∀ L, SJ G (A.deeper (envOfC qual scope L f cd)) (frX qual scope L f cd mc []) (ps.zip xs) [] (execs body (envOfC qual scope L f cd)) (retP P))
    (hkind : (ps.all fun y => scope.names.lookup y == some .local || scope.names.lookup y == some .cell) = true := by rfl) (nd : ps.Nodup := by decide) (hnd : ((cellsFrom 0 scope.names []).map (·.1)).Nodup := by decide)
    (hmc : ∀ x ∈ mc, scope.names.lookup x = some .cell := by decide)
    (hco : scope.isCoroutine = false := by rfl) (hgen : scope.isGenerator = false := by rfl) (hk : scope.kind = .function := by rfl) : COk G A (.ref f) xs fun Z v => ∃ x, VR Z x v ∧ P x := fun Z s E vs z i h => by
  have hv : vs.length = ps.length := h.length.trans hl
  refine call_fn g F mc hr z i (fun S => hb S vs hv) (BindsR.zip nd h hv) ?_ hnd hmc hbody hco hgen hk
  refine List.all_eq_true.mpr fun p hp => ?_
  exact List.all_eq_true.mp hkind p.1 (List.of_mem_zip hp).1
theorem COk.eq {f : Value} {xs : List AV} {x : AV} (h : COk G A f xs fun Z v => ∃ y, VR Z y v ∧ y = x) : COk G A f xs fun Z v => VR Z x v := fun Z s E vs z i r =>
  wpAny_mono (h Z s E vs z i r) (fun v s' p => by
    obtain ⟨k, Z', g, y, h1, rfl⟩ := p
    exact ⟨k, Z', g, h1⟩) fun _ _ e => e

/-- a global int -/
theorem PE_globI {x : Str} {i : Int} {t : Tok} {pos : Pos} (hg : Glb G x (.int i t)) (hx : env.kindOf x = some .globalImplicit) (hd : (x == ("__debug__" : Str)) = false := by decide) : PE G A env ρ (.Name x pos) (.int i) := fun Z s E z i f =>
  wpAny_mono (PE_glob hg hx hd Z s E z i f) (fun v s' p => by
    obtain ⟨k, Z', g, h⟩ := p
    cases h.valInv
    exact ⟨k, Z', g, .int⟩) fun _ _ e => e
end
end PL

namespace PL

def stm (i : Nat) : Option Stmt := PySem.Challenge.pw_uc0024_01.main.body[i]?
def sP : Option Stmt → Arguments
  | some (.FunctionDef _ a _ _ _ _ _ _ _ _) => a
  | _ => ⟨[], [], none, [], [], none, []⟩
def sB : Option Stmt → List Stmt
  | some (.FunctionDef _ _ b _ _ _ _ _ _ _) => b
  | _ => []
def sS : Option Stmt → Scope
  | some (.FunctionDef _ _ _ _ _ _ s _ _ _) => s
  | _ => ⟨.function, [], false, false, []⟩
def cM (j : Nat) : Option Stmt → Option Stmt
  | some (.ClassDef _ _ _ b _ _ _ _ _ _ _) => b[j]?
  | _ => none
abbrev fP (i : Nat) := sP (stm i)
abbrev fB (i : Nat) := sB (stm i)
abbrev fS (i : Nat) := sS (stm i)
end PL

namespace PL
/-- what the written part says of the defs -/
structure KFacts (K : Frag) : Prop where
  F_insort_right : FnK K 23 "insort_right" (fP 1) (fB 1) (fS 1) (.ref 15) (.ref 16) (.ref 22)
  F_bisect_right : FnK K 32 "bisect_right" (fP 2) (fB 2) (fS 2) (.ref 24) (.ref 25) (.ref 31)
  F_insort_left : FnK K 41 "insort_left" (fP 3) (fB 3) (fS 3) (.ref 33) (.ref 34) (.ref 40)
  F_bisect_left : FnK K 50 "bisect_left" (fP 4) (fB 4) (fS 4) (.ref 42) (.ref 43) (.ref 49)
  F_ISTERMINAL : FnK K 57 "ISTERMINAL" (fP 8) (fB 8) (fS 8) .none .none (.ref 56)
  F_ISNONTERMINAL : FnK K 64 "ISNONTERMINAL" (fP 9) (fB 9) (fS 9) .none .none (.ref 63)
  F_ISEOF : FnK K 71 "ISEOF" (fP 10) (fB 10) (fS 10) .none .none (.ref 70)
  F_QName_init : FnK K 86 "QName.__init__" (sP (cM 0 (stm 12))) (sB (cM 0 (stm 12))) (sS (cM 0 (stm 12))) (.ref 79) .none (.ref 85)
  F_QName_lt : FnK K 121 "QName.__lt__" (sP (cM 5 (stm 12))) (sB (cM 5 (stm 12))) (sS (cM 5 (stm 12))) .none .none (.ref 120)
  F_QName_gt : FnK K 135 "QName.__gt__" (sP (cM 7 (stm 12))) (sB (cM 7 (stm 12))) (sS (cM 7 (stm 12))) .none .none (.ref 134)
  F_raise_serialization_error : FnK K 156 "_raise_serialization_error" (fP 13) (fB 13) (fS 13) .none .none (.ref 155)
  F_escape_cdata : FnK K 163 "_escape_cdata" (fP 14) (fB 14) (fS 14) .none .none (.ref 162)
  F_escape_attrib : FnK K 170 "_escape_attrib" (fP 15) (fB 15) (fS 15) .none .none (.ref 169)
  F_escape_attrib_html : FnK K 177 "_escape_attrib_html" (fP 16) (fB 16) (fS 16) .none .none (.ref 176)
  F_escape_cdata_c14n : FnK K 184 "_escape_cdata_c14n" (fP 17) (fB 17) (fS 17) .none .none (.ref 183)
  F_escape_attrib_c14n : FnK K 191 "_escape_attrib_c14n" (fP 18) (fB 18) (fS 18) .none .none (.ref 190)
  F_law_cells : FnK K 198 "_law_cells" (fP 20) (fB 20) (fS 20) .none .none (.ref 197)
  F_law_hand : FnK K 205 "_law_hand" (fP 21) (fB 21) (fS 21) .none .none (.ref 204)
  F_law_text : FnK K 212 "_law_text" (fP 22) (fB 22) (fS 22) .none .none (.ref 211)
  F_law_bare : FnK K 219 "_law_bare" (fP 23) (fB 23) (fS 23) .none .none (.ref 218)
  F_law_rows : FnK K 226 "_law_rows" (fP 24) (fB 24) (fS 24) .none .none (.ref 225)
  F_law_twice : FnK K 233 "_law_twice" (fP 25) (fB 25) (fS 25) .none .none (.ref 232)
  F_law_alike : FnK K 240 "_law_alike" (fP 26) (fB 26) (fS 26) .none .none (.ref 239)
  F_law_seen : FnK K 247 "_law_seen" (fP 27) (fB 27) (fS 27) .none .none (.ref 246)
  F_law_periods : FnK K 252 "_law_periods" (fP 28) (fB 28) (fS 28) .none .none (.ref 251)
  F_law_written : FnK K 259 "_law_written" (fP 29) (fB 29) (fS 29) .none .none (.ref 258)
  F_law : FnK K 264 "law" (fP 30) (fB 30) (fS 30) .none .none (.ref 263)
  B_insort_right : ∃ t : Tok, ∀ (S : Setting) (v_a v_x : Value), peek K S (bindArgs (bare "insort_right" (fP 1) (fB 1) (fS 1) (.ref 15) (.ref 16) (.ref 22)) ⟨[v_a, v_x], []⟩) = some ([("a", v_a), ("x", v_x), ("lo", .int 0 t), ("hi", .none), ("key", .none)] : List (Str × Value))
  B_insort_right_k : ∃ t : Tok, ∀ (S : Setting) (v_a v_x v_key : Value), peek K S (bindArgs (bare "insort_right" (fP 1) (fB 1) (fS 1) (.ref 15) (.ref 16) (.ref 22)) ⟨[v_a, v_x], [("key", v_key)]⟩) = some ([("a", v_a), ("x", v_x), ("lo", .int 0 t), ("hi", .none), ("key", v_key)] : List (Str × Value))
  B_bisect_right : ∀ (S : Setting) (v_a v_x v_lo v_hi : Value), peek K S (bindArgs (bare "bisect_right" (fP 2) (fB 2) (fS 2) (.ref 24) (.ref 25) (.ref 31)) ⟨[v_a, v_x, v_lo, v_hi], []⟩) = some ([("a", v_a), ("x", v_x), ("lo", v_lo), ("hi", v_hi), ("key", .none)] : List (Str × Value))
  B_bisect_right_k : ∀ (S : Setting) (v_a v_x v_lo v_hi v_key : Value), peek K S (bindArgs (bare "bisect_right" (fP 2) (fB 2) (fS 2) (.ref 24) (.ref 25) (.ref 31)) ⟨[v_a, v_x, v_lo, v_hi], [("key", v_key)]⟩) = some ([("a", v_a), ("x", v_x), ("lo", v_lo), ("hi", v_hi), ("key", v_key)] : List (Str × Value))
  B_bisect_right_2k : ∃ t : Tok, ∀ (S : Setting) (v_a v_x v_key : Value), peek K S (bindArgs (bare "bisect_right" (fP 2) (fB 2) (fS 2) (.ref 24) (.ref 25) (.ref 31)) ⟨[v_a, v_x], [("key", v_key)]⟩) = some ([("a", v_a), ("x", v_x), ("lo", .int 0 t), ("hi", .none), ("key", v_key)] : List (Str × Value))
  B_insort_left : ∃ t : Tok, ∀ (S : Setting) (v_a v_x : Value), peek K S (bindArgs (bare "insort_left" (fP 3) (fB 3) (fS 3) (.ref 33) (.ref 34) (.ref 40)) ⟨[v_a, v_x], []⟩) = some ([("a", v_a), ("x", v_x), ("lo", .int 0 t), ("hi", .none), ("key", .none)] : List (Str × Value))
  B_insort_left_k : ∃ t : Tok, ∀ (S : Setting) (v_a v_x v_key : Value), peek K S (bindArgs (bare "insort_left" (fP 3) (fB 3) (fS 3) (.ref 33) (.ref 34) (.ref 40)) ⟨[v_a, v_x], [("key", v_key)]⟩) = some ([("a", v_a), ("x", v_x), ("lo", .int 0 t), ("hi", .none), ("key", v_key)] : List (Str × Value))
  B_bisect_left : ∀ (S : Setting) (v_a v_x v_lo v_hi : Value), peek K S (bindArgs (bare "bisect_left" (fP 4) (fB 4) (fS 4) (.ref 42) (.ref 43) (.ref 49)) ⟨[v_a, v_x, v_lo, v_hi], []⟩) = some ([("a", v_a), ("x", v_x), ("lo", v_lo), ("hi", v_hi), ("key", .none)] : List (Str × Value))
  B_bisect_left_k : ∀ (S : Setting) (v_a v_x v_lo v_hi v_key : Value), peek K S (bindArgs (bare "bisect_left" (fP 4) (fB 4) (fS 4) (.ref 42) (.ref 43) (.ref 49)) ⟨[v_a, v_x, v_lo, v_hi], [("key", v_key)]⟩) = some ([("a", v_a), ("x", v_x), ("lo", v_lo), ("hi", v_hi), ("key", v_key)] : List (Str × Value))
  B_bisect_left_2k : ∃ t : Tok, ∀ (S : Setting) (v_a v_x v_key : Value), peek K S (bindArgs (bare "bisect_left" (fP 4) (fB 4) (fS 4) (.ref 42) (.ref 43) (.ref 49)) ⟨[v_a, v_x], [("key", v_key)]⟩) = some ([("a", v_a), ("x", v_x), ("lo", .int 0 t), ("hi", .none), ("key", v_key)] : List (Str × Value))
  B_ISTERMINAL : ∀ (S : Setting) (v_x : Value), peek K S (bindArgs (bare "ISTERMINAL" (fP 8) (fB 8) (fS 8) .none .none (.ref 56)) ⟨[v_x], []⟩) = some ([("x", v_x)] : List (Str × Value))
  B_ISNONTERMINAL : ∀ (S : Setting) (v_x : Value), peek K S (bindArgs (bare "ISNONTERMINAL" (fP 9) (fB 9) (fS 9) .none .none (.ref 63)) ⟨[v_x], []⟩) = some ([("x", v_x)] : List (Str × Value))
  B_ISEOF : ∀ (S : Setting) (v_x : Value), peek K S (bindArgs (bare "ISEOF" (fP 10) (fB 10) (fS 10) .none .none (.ref 70)) ⟨[v_x], []⟩) = some ([("x", v_x)] : List (Str × Value))
  B_QName_init : ∀ (S : Setting) (v_self v_text_or_uri : Value), peek K S (bindArgs (bare "QName.__init__" (sP (cM 0 (stm 12))) (sB (cM 0 (stm 12))) (sS (cM 0 (stm 12))) (.ref 79) .none (.ref 85)) ⟨[v_self, v_text_or_uri], []⟩) = some ([("self", v_self), ("text_or_uri", v_text_or_uri), ("tag", .none)] : List (Str × Value))
  B_QName_lt : ∀ (S : Setting) (v_self v_other : Value), peek K S (bindArgs (bare "QName.__lt__" (sP (cM 5 (stm 12))) (sB (cM 5 (stm 12))) (sS (cM 5 (stm 12))) .none .none (.ref 120)) ⟨[v_self, v_other], []⟩) = some ([("self", v_self), ("other", v_other)] : List (Str × Value))
  B_QName_gt : ∀ (S : Setting) (v_self v_other : Value), peek K S (bindArgs (bare "QName.__gt__" (sP (cM 7 (stm 12))) (sB (cM 7 (stm 12))) (sS (cM 7 (stm 12))) .none .none (.ref 134)) ⟨[v_self, v_other], []⟩) = some ([("self", v_self), ("other", v_other)] : List (Str × Value))
  B_raise_serialization_error : ∀ (S : Setting) (v_text : Value), peek K S (bindArgs (bare "_raise_serialization_error" (fP 13) (fB 13) (fS 13) .none .none (.ref 155)) ⟨[v_text], []⟩) = some ([("text", v_text)] : List (Str × Value))
  B_escape_cdata : ∀ (S : Setting) (v_text : Value), peek K S (bindArgs (bare "_escape_cdata" (fP 14) (fB 14) (fS 14) .none .none (.ref 162)) ⟨[v_text], []⟩) = some ([("text", v_text)] : List (Str × Value))
  B_escape_attrib : ∀ (S : Setting) (v_text : Value), peek K S (bindArgs (bare "_escape_attrib" (fP 15) (fB 15) (fS 15) .none .none (.ref 169)) ⟨[v_text], []⟩) = some ([("text", v_text)] : List (Str × Value))
  B_escape_attrib_html : ∀ (S : Setting) (v_text : Value), peek K S (bindArgs (bare "_escape_attrib_html" (fP 16) (fB 16) (fS 16) .none .none (.ref 176)) ⟨[v_text], []⟩) = some ([("text", v_text)] : List (Str × Value))
  B_escape_cdata_c14n : ∀ (S : Setting) (v_text : Value), peek K S (bindArgs (bare "_escape_cdata_c14n" (fP 17) (fB 17) (fS 17) .none .none (.ref 183)) ⟨[v_text], []⟩) = some ([("text", v_text)] : List (Str × Value))
  B_escape_attrib_c14n : ∀ (S : Setting) (v_text : Value), peek K S (bindArgs (bare "_escape_attrib_c14n" (fP 18) (fB 18) (fS 18) .none .none (.ref 190)) ⟨[v_text], []⟩) = some ([("text", v_text)] : List (Str × Value))
  B_law_cells : ∀ (S : Setting) (v_script : Value), peek K S (bindArgs (bare "_law_cells" (fP 20) (fB 20) (fS 20) .none .none (.ref 197)) ⟨[v_script], []⟩) = some ([("script", v_script)] : List (Str × Value))
  B_law_hand : ∀ (S : Setting) (v_number : Value), peek K S (bindArgs (bare "_law_hand" (fP 21) (fB 21) (fS 21) .none .none (.ref 204)) ⟨[v_number], []⟩) = some ([("number", v_number)] : List (Str × Value))
  B_law_text : ∀ (S : Setting) (v_cells v_letters : Value), peek K S (bindArgs (bare "_law_text" (fP 22) (fB 22) (fS 22) .none .none (.ref 211)) ⟨[v_cells, v_letters], []⟩) = some ([("cells", v_cells), ("letters", v_letters)] : List (Str × Value))
  B_law_bare : ∀ (S : Setting) (v_name : Value), peek K S (bindArgs (bare "_law_bare" (fP 23) (fB 23) (fS 23) .none .none (.ref 218)) ⟨[v_name], []⟩) = some ([("name", v_name)] : List (Str × Value))
  B_law_rows : ∀ (S : Setting) (v_text v_hand v_dress : Value), peek K S (bindArgs (bare "_law_rows" (fP 24) (fB 24) (fS 24) .none .none (.ref 225)) ⟨[v_text, v_hand, v_dress], []⟩) = some ([("text", v_text), ("hand", v_hand), ("dress", v_dress)] : List (Str × Value))
  B_law_twice : ∀ (S : Setting) (v_row v_lasts v_side : Value), peek K S (bindArgs (bare "_law_twice" (fP 25) (fB 25) (fS 25) .none .none (.ref 232)) ⟨[v_row, v_lasts, v_side], []⟩) = some ([("row", v_row), ("lasts", v_lasts), ("side", v_side)] : List (Str × Value))
  B_law_alike : ∀ (S : Setting) (v_numbers v_first v_cut v_gap : Value), peek K S (bindArgs (bare "_law_alike" (fP 26) (fB 26) (fS 26) .none .none (.ref 239)) ⟨[v_numbers, v_first, v_cut, v_gap], []⟩) = some ([("numbers", v_numbers), ("first", v_first), ("cut", v_cut), ("gap", v_gap)] : List (Str × Value))
  B_law_seen : ∀ (S : Setting) (v_numbers v_first v_cut : Value), peek K S (bindArgs (bare "_law_seen" (fP 27) (fB 27) (fS 27) .none .none (.ref 246)) ⟨[v_numbers, v_first, v_cut], []⟩) = some ([("numbers", v_numbers), ("first", v_first), ("cut", v_cut)] : List (Str × Value))
  B_law_periods : ∀ (S : Setting) (v_text : Value), peek K S (bindArgs (bare "_law_periods" (fP 28) (fB 28) (fS 28) .none .none (.ref 251)) ⟨[v_text], []⟩) = some ([("text", v_text)] : List (Str × Value))
  B_law_written : ∀ (S : Setting) (v_numbers v_size v_letters : Value), peek K S (bindArgs (bare "_law_written" (fP 29) (fB 29) (fS 29) .none .none (.ref 258)) ⟨[v_numbers, v_size, v_letters], []⟩) = some ([("numbers", v_numbers), ("size", v_size), ("letters", v_letters)] : List (Str × Value))
  B_law : ∀ (S : Setting) (v_script : Value), peek K S (bindArgs (bare "law" (fP 30) (fB 30) (fS 30) .none .none (.ref 263)) ⟨[v_script], []⟩) = some ([("script", v_script)] : List (Str × Value))
/-- what the names of the module give -/
structure GFacts (G : Gl) : Prop where
  g_insort_right : Glb G "insort_right" (.ref 23)
  g_bisect_right : Glb G "bisect_right" (.ref 32)
  g_insort_left : Glb G "insort_left" (.ref 41)
  g_bisect_left : Glb G "bisect_left" (.ref 50)
  g_ENDMARKER : ∃ t : Tok, Glb G "ENDMARKER" (.int 0 t)
  g_NT_OFFSET : ∃ t : Tok, Glb G "NT_OFFSET" (.int 256 t)
  g_ISTERMINAL : Glb G "ISTERMINAL" (.ref 57)
  g_ISNONTERMINAL : Glb G "ISNONTERMINAL" (.ref 64)
  g_ISEOF : Glb G "ISEOF" (.ref 71)
  g_QName : Glb G "QName" (.ref 145)
  g_raise_serialization_error : Glb G "_raise_serialization_error" (.ref 156)
  g_escape_cdata : Glb G "_escape_cdata" (.ref 163)
  g_escape_attrib : Glb G "_escape_attrib" (.ref 170)
  g_escape_attrib_html : Glb G "_escape_attrib_html" (.ref 177)
  g_escape_cdata_c14n : Glb G "_escape_cdata_c14n" (.ref 184)
  g_escape_attrib_c14n : Glb G "_escape_attrib_c14n" (.ref 191)
  g_law_cells : Glb G "_law_cells" (.ref 198)
  g_law_hand : Glb G "_law_hand" (.ref 205)
  g_law_text : Glb G "_law_text" (.ref 212)
  g_law_bare : Glb G "_law_bare" (.ref 219)
  g_law_rows : Glb G "_law_rows" (.ref 226)
  g_law_twice : Glb G "_law_twice" (.ref 233)
  g_law_alike : Glb G "_law_alike" (.ref 240)
  g_law_seen : Glb G "_law_seen" (.ref 247)
  g_law_periods : Glb G "_law_periods" (.ref 252)
  g_law_written : Glb G "_law_written" (.ref 259)
  g_law : Glb G "law" (.ref 264)
  g_len : Glb G "len" (.builtin "len")
  g_range : Glb G "range" (.type "range")
  g_isinstance : Glb G "isinstance" (.builtin "isinstance")
  g_max : Glb G "max" (.builtin "max")
  g_min : Glb G "min" (.builtin "min")
  g_sorted : Glb G "sorted" (.builtin "sorted")

end PL

namespace PL
section
variable {G : Gl} {K : Frag} {A : Around} {env : Env} {ρ : Vars} {X : Fx} {σ σ' : Sg} {Post : Out → Prop}

/-- less is known -/
def Sub (ρ' ρ : Vars) : Prop := ∀ y v, ρ'.lookup y = some v → ρ.lookup y = some v
theorem Sub.nil : Sub [] ρ := fun y v e => by cases e
theorem Sub.cons {y : Str} {v : AV} {r : Vars} (h : ρ.lookup y = some v) (k : Sub r ρ) : Sub ((y, v) :: r) ρ := fun z u e => by
  rw [lookup_cons_if] at e
  by_cases q : z = y
  · rw [if_pos q] at e; cases e; rw [q]; exact h
  · rw [if_neg q] at e; exact k z u e
theorem Sub.refl : Sub ρ ρ := fun _ _ e => e
theorem Sub.setV {ρ' : Vars} {x : Str} {v : AV} (k : Sub ρ' ρ) : Sub (setV ρ' x v) (setV ρ x v) := fun y u e => by
  rw [setV_lookup] at e ⊢
  by_cases q : y = x
  · rw [if_pos q] at e ⊢; exact e
  · rw [if_neg q] at e ⊢; exact k y u e
theorem Sub.setVs {xs : List Str} {vs : List AV} : ∀ {ρ ρ' : Vars}, Sub ρ' ρ → Sub (setVs ρ' xs vs) (setVs ρ xs vs) := by
  induction xs generalizing vs with
  | nil => intro ρ ρ' k; exact k
  | cons x xs ih =>
    intro ρ ρ' k
    cases vs with
    | nil => exact k
    | cons v vs => exact ih k.setV

/-- a list of the frame's own let go for good -/
theorem S_freeze {t : Sem Flow} {l : Str} {a : Addr} {xs : List AV} (hl : ρ.lookup l = some (.ref a)) (h : SJ G A X (setV ρ l (.list xs)) σ t Post) : SJ G A X ρ ((a, xs) :: σ) t Post := fun W Z s E z st => by
  obtain ⟨Z', k, st', r⟩ := st.freeze
  have st2 : St X W Z' (setV ρ l (.list xs)) σ s.heap := by
    obtain ⟨m, hm, hv⟩ := st'.vars
    refine { st' with vars := ⟨m, hm, fun y u e => ?_⟩ }
    rw [setV_lookup] at e
    by_cases q : y = l
    · subst q
      rw [if_pos rfl] at e; cases e
      obtain ⟨w, hw, rr⟩ := hv y _ hl
      cases hw.refInv
      exact ⟨_, r, rr⟩
    · rw [if_neg q] at e; exact hv y u e
  exact wpAny_mono (h W Z' s E ⟨z.sub.trans k, z.tok⟩ st2) (fun fl s' p => p.trans (.refl s) k) fun _ _ e => e

def InvC (Inv : Nat → Vars → Sg → Prop) (i : Nat) (ρ : Vars) (σ : Sg) : Prop := ∃ ρ', Inv i ρ' σ ∧ Sub ρ' ρ
/-- what a turn leaves -/
def turnP (Inv : Nat → Vars → Sg → Prop) (Post : Out → Prop) (i : Nat) : Out → Prop
  | .next ρ2 σ2 => InvC Inv i ρ2 σ2
  | .cont ρ2 σ2 => InvC Inv i ρ2 σ2
  | .brk ρ2 σ2 => Post (.next ρ2 σ2)
  | .ret x σ2 => Post (.ret x σ2)

theorem S_forN {x : Str} {px : Pos} {iter : Expr} {body : List Stmt} {pos : Pos} {src : AV} {items : List AV} (Inv : Nat → Vars → Sg → Prop) (hsrc : PE G A X.env ρ iter src) (hit : IterOk G A src items) (hx : Sto X x) (h0 : InvC Inv 0 ρ σ)
    (turn : ∀ i it ρ1 σ1, items[i]? = some it → Inv i ρ1 σ1 → SJ G A X (setV ρ1 x it) σ1 (execs body X.env) (turnP Inv Post (i + 1)))
    (done : ∀ ρ1 σ1, Inv items.length ρ1 σ1 → ∀ ρ2, Sub ρ1 ρ2 → Post (.next ρ2 σ1)) (hs : ∀ x, foldedSetIterable iter X.env x = pure x := by intro _; rfl) :
    SJ G A X ρ σ (exec (.For (.Name x px) iter body [] pos) X.env) Post :=
  S_for (fun it ρ => setV ρ x it) (InvC Inv) hsrc hit (fun it _ => tgt_name hx) h0 (fun i it ρ1 σ1 e hI => by
    obtain ⟨ρ', hI, k⟩ := hI
    refine SJ.mono (SJ.less (turn i it ρ' σ1 e hI) k.setV) fun o p => ?_
    cases o <;> exact p) (fun ρ1 σ1 ⟨ρ', hI, k⟩ => done _ _ hI _ k) hs
theorem S_forT {es : List Expr} {xs : List Str} {kt : Nat} {px : Pos} {iter : Expr} {body : List Stmt} {pos : Pos} {src : AV} {items : List AV} (Inv : Nat → Vars → Sg → Prop) (hsrc : PE G A X.env ρ iter src) (hit : IterOk G A src items) (hx : Names X es xs) (hh : A.handled = none) (h0 : InvC Inv 0 ρ σ)
    (parts : AV → List AV) (htup : ∀ it, it ∈ items → it = .tup (parts it) ∧ (parts it).length = xs.length)
    (turn : ∀ i it ρ1 σ1, items[i]? = some it → Inv i ρ1 σ1 → SJ G A X (setVs ρ1 xs (parts it)) σ1 (execs body X.env) (turnP Inv Post (i + 1)))
    (done : ∀ ρ1 σ1, Inv items.length ρ1 σ1 → ∀ ρ2, Sub ρ1 ρ2 → Post (.next ρ2 σ1)) (hs : ∀ x, foldedSetIterable iter X.env x = pure x := by intro _; rfl) :
    SJ G A X ρ σ (exec (.For (.Tuple es kt px) iter body [] pos) X.env) Post :=
  S_for (fun it ρ => setVs ρ xs (parts it)) (InvC Inv) hsrc hit (fun it h => by
    obtain ⟨e, hl⟩ := htup it h
    have := assign_names (G := G) (k := kt) (p := px) hx hl hh
    rw [← e] at this
    exact this) h0 (fun i it ρ1 σ1 e hI => by
    obtain ⟨ρ', hI, k⟩ := hI
    refine SJ.mono (SJ.less (turn i it ρ' σ1 e hI) k.setVs) fun o p => ?_
    cases o <;> exact p) (fun ρ1 σ1 ⟨ρ', hI, k⟩ => done _ _ hI _ k) hs

theorem S_whileN {test : Expr} {body : List Stmt} {pos : Pos} (Inv : Nat → Vars → Sg → Prop) (n : Nat) (h0 : InvC Inv n ρ σ)
    (turn : ∀ n ρ1 σ1, Inv n ρ1 σ1 → ∃ b, TJ G A X ρ1 σ1 test b ∧ (b = true → SJ G A X ρ1 σ1 (execs body X.env) fun o => ∃ m, m < n ∧ turnP Inv Post m o) ∧ (b = false → ∀ ρ2, Sub ρ1 ρ2 → Post (.next ρ2 σ1))) :
    SJ G A X ρ σ (exec (.While test body [] pos) X.env) Post :=
  S_while (InvC Inv) n h0 fun n ρ1 σ1 ⟨ρ', hI, k⟩ => by
    obtain ⟨b, h1, h2, h3⟩ := turn n ρ' σ1 hI
    refine ⟨b, fun W Z s E z st => h1 W Z s E z (st.less k), fun hb => SJ.mono (SJ.less (h2 hb) k) fun o p => ?_, fun hb => h3 hb _ k⟩
    obtain ⟨m, hm, p⟩ := p
    cases o with
    | next => exact ⟨m, hm, p⟩
    | cont => exact ⟨m, hm, p⟩
    | brk => exact p
    | ret => exact p

/-! ranges -/
theorem iter_ab {a b : Int} (hh : A.handled = none) (h1 : -1000000 ≤ a) (h2 : a ≤ 1000000) (h3 : -1000000 ≤ b) (h4 : b ≤ 1000000) : IterOk G A (.rng a b 1) ((List.range (b - a).toNat).map fun (k : Nat) => .int (a + k)) := by
  have := iter_range (G := G) (A := A) (a := a) (c := 1) (n := (b - a).toNat) (b := b) hh (PySem.small_one (by omega) (by omega) (by omega) (by omega)) (by
    rw [rangeSize_one]; split <;> omega)
  simpa using this
theorem iter_up {n : Nat} (hh : A.handled = none) (h : n ≤ 1000000) : IterOk G A (.rng 0 n 1) ((List.range n).map fun (k : Nat) => .int k) := by
  have := iter_ab (G := G) (A := A) (a := 0) (b := n) hh (by omega) (by omega) (by omega) (by omega)
  simpa using this
theorem range_up {n i : Nat} {it : AV} (h : ((List.range n).map fun (k : Nat) => AV.int k)[i]? = some it) : i < n ∧ it = .int i := by
  rw [List.getElem?_map] at h
  by_cases q : i < n
  · rw [List.getElem?_range q] at h; cases h; exact ⟨q, rfl⟩
  · rw [List.getElem?_eq_none (by simpa using q)] at h; cases h
theorem range_ab {a : Int} {n i : Nat} {it : AV} (h : ((List.range n).map fun (k : Nat) => AV.int (a + k))[i]? = some it) : i < n ∧ it = .int (a + i) := by
  rw [List.getElem?_map] at h
  by_cases q : i < n
  · rw [List.getElem?_range q] at h; cases h; exact ⟨q, rfl⟩
  · rw [List.getElem?_eq_none (by simpa using q)] at h; cases h
theorem int_map_get {l : List Int} {k : Nat} (h : k < l.length) : (l.map AV.int)[k]? = some (.int (l.getD k 0)) := by
  rw [List.getElem?_map, List.getElem?_eq_getElem h]
  simp [List.getD, h]

theorem PE.conv {e : Expr} {x y : AV} (h : PE G A env ρ e x) (q : x = y) : PE G A env ρ e y := q ▸ h
theorem PE.ci {e : Expr} {x y : Int} (h : PE G A env ρ e (.int x)) (q : x = y) : PE G A env ρ e (.int y) := q ▸ h
theorem ViewOk.nil : ViewOk ρ σ [] := fun y v e => by cases e
theorem ViewOk.own {ρ' : Vars} {y : Str} {a : Addr} {xs : List AV} (h : ρ.lookup y = some (.ref a)) (m : (a, xs) ∈ σ) (k : ViewOk ρ σ ρ') : ViewOk ρ σ ((y, .list xs) :: ρ') := fun z u e => by
  rw [lookup_cons_if] at e
  by_cases q : z = y
  · rw [if_pos q] at e; cases e; rw [q]; exact .inr ⟨a, xs, h, rfl, m⟩
  · rw [if_neg q] at e; exact k z u e
theorem ViewOk.same {ρ' : Vars} {y : Str} {v : AV} (h : ρ.lookup y = some v) (k : ViewOk ρ σ ρ') : ViewOk ρ σ ((y, v) :: ρ') := fun z u e => by
  rw [lookup_cons_if] at e
  by_cases q : z = y
  · rw [if_pos q] at e; cases e; rw [q]; exact .inl h
  · rw [if_neg q] at e; exact k z u e

theorem setV_self {x : Str} {v : AV} : (setV ρ x v).lookup x = some v := by rw [setV_lookup, if_pos rfl]
theorem setV_other {x y : Str} {v : AV} {u : Option AV} (h : ρ.lookup y = u) (n : y ≠ x := by decide) : (setV ρ x v).lookup y = u := by rw [setV_lookup, if_neg n]; exact h
theorem len_up {n : Nat} : ((List.range n).map fun (k : Nat) => AV.int k).length = n := by simp
theorem len_ab {n : Nat} {a : Int} : ((List.range n).map fun (k : Nat) => AV.int (a + k)).length = n := by simp

/-- a call of a def whose words are these -/
theorem fn_core (g : GlOk G K) {f : Addr} {qual : Str} {params : Arguments} {body : List Stmt} {scope : Scope} {dV kV cd : Value} (F : FnK K f qual params body scope dV kV cd) (ps : List Str) {xs : List AV} {n : Nat} {P : AV → Prop} {Z : PH} {s : Shared} {E : Value → Shared → Prop} {vs ws : List Value} {ks : List (Str × Value)}
    (z : Bs G Z s) (i : PIn Z s.heap) (hb : ∀ S, peek K S (bindArgs (bare qual params body scope dV kV cd) ⟨vs, ks⟩) = some (ps.zip ws)) (hv : VRs Z xs ws) (hr : Room (n + 1) A) (mc : List Str) (hl : xs.length = ps.length)
    (hbody : ∀ L, SJ G (A.deeper (envOfC qual scope L f cd)) (frX qual scope L f cd mc []) (ps.zip xs) [] (execs body (envOfC qual scope L f cd)) (retP P))
    (hkind : (ps.all fun y => scope.names.lookup y == some .local || scope.names.lookup y == some .cell) = true := by rfl) (nd : ps.Nodup := by decide) (hnd : ((cellsFrom 0 scope.names []).map (·.1)).Nodup := by decide)
    (hmc : ∀ x ∈ mc, scope.names.lookup x = some .cell := by decide)
    (hco : scope.isCoroutine = false := by rfl) (hgen : scope.isGenerator = false := by rfl) (hk : scope.kind = .function := by rfl) : wpAny (model G.prog G.w) A (call (.ref f) vs ks) (PPost Z s fun Z v => ∃ x, VR Z x v ∧ P x) E s := by
  have hw : ws.length = ps.length := hv.length.trans hl
  refine call_fn g F mc hr z i hb (BindsR.zip nd hv hw) ?_ hnd hmc hbody hco hgen hk
  refine List.all_eq_true.mpr fun p hp => ?_
  exact List.all_eq_true.mp hkind p.1 (List.of_mem_zip hp).1
theorem post_eq {Z : PH} {s s' : Shared} {x : AV} {v : Value} (h : PPost Z s (fun Z v => ∃ y, VR Z y v ∧ y = x) v s') : PPost Z s (fun Z v => VR Z x v) v s' := by
  obtain ⟨k, Z', g, y, h1, rfl⟩ := h
  exact ⟨k, Z', g, h1⟩
/-- a call with one keyword -/
def COkK (G : Gl) (A : Around) (f : Value) (xs : List AV) (kn : Str) (kx : AV) (R : PH → Value → Prop) : Prop :=
  ∀ (Z : PH) (s : Shared) (E : Value → Shared → Prop) (vs : List Value) (kv : Value), Bs G Z s → PIn Z s.heap → VRs Z xs vs → VR Z kx kv → wpAny (model G.prog G.w) A (call f vs [(kn, kv)]) (PPost Z s R) E s
/-- f(x, .., k=e) -/
theorem PW_callKW (g : GlOk G K) {f kn : Str} {p kp pos : Pos} {v : Value} {e ke : Expr} {es : List Expr} {xs : List AV} {kx : AV} {R : PH → Value → Prop} (hf : PE G A env ρ (.Name f p) (.val v)) (hk : keepIn K v = true) (ha : PS G A env ρ (e :: es) xs) (hke : PE G A env ρ ke kx)
    (hc : COkK G A v xs kn kx R) (he : starEach (e :: es) env = (false, eval e env) :: starEach es env := by rfl) (hp : (backTo pos (starEach es env)).any (·.1) = false := by rfl)
    (hkw : keywordEach [⟨some kn, ke, kp⟩] env = [(some kn, eval ke env)] := by rfl) :
    PW G A env ρ (eval (.Call (.Name f p) (e :: es) [⟨some kn, ke, kp⟩] pos) env) R := fun Z s E z0 i f =>
  Call_kws (hf.seq z0 i f fun u s1 Z1 k1 g1 r1 z1 f1 => by
    cases r1.valInv
    have hq : backToKw pos (keywordEach [⟨some kn, ke, kp⟩] env) = [(some kn, do let v ← eval ke env; standAt pos; pure v)] := by rw [hkw]; rfl
    have nst : (backTo pos (starEach (e :: es) env)).any (·.1) = false := by
      rw [he]; show (false || (backTo pos (starEach es env)).any (·.1)) = false; rw [hp]; rfl
    refine callWith_KW (env := env) (kws := [⟨some kn, ke, kp⟩]) (e := e) (rest := es) (first := []) (g.kin z1.sub g1.inn) hk ?_ ?_ ?_ he
    · rw [hq]; rfl
    · refine (ha pos).seq z1 g1.inn f1 fun vs s2 Z2 k2 g2 r2 z2 f2 => ?_
      rw [hq]
      refine wpAny_evalAll_cons (wpAny_bind (hke.seq z2 g2.inn f2 fun kv s3 Z3 k3 g3 r3 z3 f3 => wpAny_bind (wpAny_standAt (wpAny_pure (wpAny_evalAll_nil ⟨g.kin z3.sub g3.inn, ?_⟩)))))
      exact wpAny_mono (hc Z3 s3 E vs kv z3 g3.inn (r2.mono g3.sub) r3) (fun _ _ p => ((p.trans k3 g3).trans k2 g2).trans k1 g1) fun _ _ e => e
    · rw [nst, hq]; rfl)
end
end PL

namespace PL
section
variable {G : Gl} {K : Frag} {A : Around} {env : Env} {ρ : Vars} {X : Fx} {σ σ' : Sg} {Post : Out → Prop}

theorem FnK.keep {f : Addr} {qual : Str} {params : Arguments} {body : List Stmt} {scope : Scope} {dV kV cd : Value} (F : FnK K f qual params body scope dV kV cd) : keepIn K (.ref f) = true := by
  obtain ⟨name, doc, pm, an, ct, oc, od, osl, ho⟩ := F.ob
  simp only [keepIn, ho]

/-- l.insert(i, x) -/
theorem S_insert {l : Str} {lp apos cp pos : Pos} {ie arg : Expr} {a : Addr} {xs : List AV} {k : Nat} {v : AV} {pl : Sem Bool} (hl : ρ.lookup l = some (.ref a)) (hm : (a, xs) ∈ σ) (hx : xs.length ≤ 1000000) (ha : PS G A X.env ρ [ie, arg] [.int k, v]) (hk : k ≤ xs.length)
    (hput : PutL a xs (xs.take k ++ v :: xs.drop k) σ σ') (hp : Post (.next ρ σ'))
    (hs : starEach (ie :: [arg]) X.env = (false, eval ie X.env) :: starEach [arg] X.env := by rfl) (hs2 : (backTo cp (starEach [arg] X.env)).any (·.1) = false := by rfl) (hi2 : interactive X.env = false := by rfl) (hw : swapsWith (.Call (.Attribute (.Name l lp) "insert" apos) [ie, arg] [] cp) none pos.line X.env = pure false := by rfl)
    (he : eval (.Call (.Attribute (.Name l lp) "insert" apos) [ie, arg] [] cp) X.env = (do
      let ov ← eval (.Name l lp) X.env
      standAt apos.atName
      let (f, first) ← holding [ov] (getMethod ov "insert" pl)
      callWith cp f first (backTo cp (starEach [ie, arg] X.env)) []) := by rfl) (hd : (l == ("__debug__" : Str)) = false := by decide) (hc : (l == ("__classdict__" : Str)) = false := by decide) :
    SJ G A X ρ σ (exec (.Expr (.Call (.Attribute (.Name l lp) "insert" apos) [ie, arg] [] cp) pos) X.env) Post := fun W Z s E z st =>
  wpAny_Expr (MethodCall_ ((PE_name (G := G) (A := A) (env := X.env) (pos := lp) hl hd hc).seq z st.z st.fm fun w s1 Z1 k1 g1 r1 z1 f1 => by
    cases r1.refInv
    have st1 := st.grow (kk k1) g1
    refine meth_own st1 hm PySem.F.slot_list_insert PySem.F.type_list_insert ?_
    refine callWith_method1 (env := X.env) (e := ie) (rest := [arg]) ((ha cp).seq z1 g1.inn f1 fun vs s2 Z2 k2 g2 r2 z2 f2 => ?_) hs hs2
    have st2 := st1.grow (kk k2) g2
    cases r2 with
    | cons r2 r3 =>
      cases r3 with
      | cons r3 r4 =>
        cases r4
        rename_i u
        generalize hkk : (k : Int) = kk at r2
        obtain ⟨t, rfl⟩ := r2.intInv
        obtain ⟨us, n, e3, r5⟩ := st2.own _ hm
        have hsz : us.size = xs.length := by have := r5.length; rwa [Array.length_toList] at this
        have hfit : ¬ (!Builtin.List.listFitsIndex kk) = true := by
          unfold Builtin.List.listFitsIndex
          simp only [Bool.not_eq_true', Bool.and_eq_false_iff, decide_eq_false_iff_not, not_or, Classical.not_not]
          omega
        have hz : us.size ≤ sizeLine := by rw [hsz, sizeLine_eq]; omega
        have M := PySem.AutoSeq1.list_insert_list_int_val_1 a us n kk t u hfit hz
        have T : s2.TypeIs (.ref a) "list" := ⟨_, e3, rfl⟩
        refine call_meets (rest := [.int kk t, u]) PySem.F.slot_list_insert T PySem.F.entry_list_insert (PySem.F.args_list_insert_3 _ _ _) M ⟨e3, ?_⟩
        obtain ⟨n', e4⟩ := upd_list e3 (fun ys : Array Value => have j := if kk < 0 then (kk + (ys.size : Int)).toNat else min kk.toNat ys.size; (ys.extract 0 j).push u ++ ys.extract j)
        refine ⟨(Ext.ofKeeps k1).trans ((Ext.ofKeeps k2).trans ⟨s2.heap.update a (Obj.mapSeq fun ys : Array Value => have j := if kk < 0 then (kk + (ys.size : Int)).toNat else min kk.toNat ys.size; (ys.extract 0 j).push u ++ ys.extract j), s2.toks, rfl⟩), Z2, _, g1.sub.trans g2.sub, .next (st2.setList hput e4 (Heap.SameBut.update ..) ?_), hp⟩
        have ej : (if kk < 0 then (kk + (us.size : Int)).toNat else min kk.toNat us.size) = k := by
          rw [if_neg (by omega)]; omega
        have el : (have j := if kk < 0 then (kk + (us.size : Int)).toNat else min kk.toNat us.size; (us.extract 0 j).push u ++ us.extract j).toList = us.toList.take k ++ u :: us.toList.drop k := by
          show ((us.extract 0 (if kk < 0 then (kk + (us.size : Int)).toNat else min kk.toNat us.size)).push u ++ us.extract (if kk < 0 then (kk + (us.size : Int)).toNat else min kk.toNat us.size)).toList = _
          rw [ej, Array.toList_append, Array.toList_push, Array.toList_extract, Array.toList_extract, List.append_assoc]
          have e1 : us.toList.extract 0 k = us.toList.take k := by simp
          have e2 : us.toList.extract k us.size = us.toList.drop k := by
            rw [List.extract_eq_take_drop, List.take_of_length_le (by rw [List.length_drop, Array.length_toList]; omega)]
          rw [e1, e2]; rfl
        rw [el]
        have sp : ∀ {xs : List AV} {vs : List Value} (k : Nat), VRs Z2 xs vs → VRs Z2 (xs.take k) (vs.take k) ∧ VRs Z2 (xs.drop k) (vs.drop k) := by
          intro xs vs k h
          induction h generalizing k with
          | nil => simp only [List.take_nil, List.drop_nil]; exact ⟨.nil, .nil⟩
          | cons h hs ih =>
            cases k with
            | zero => exact ⟨.nil, .cons h hs⟩
            | succ k => exact ⟨.cons h (ih k).1, (ih k).2⟩
        exact (sp k r5).1.append (.cons r3 (sp k r5).2)) he) hi2 hw

/-- a call of a def that is lent a list -/
theorem lend_core (g : GlOk G K) {f : Addr} {qual : Str} {params : Arguments} {body : List Stmt} {scope : Scope} {dV kV cd : Value} (F : FnK K f qual params body scope dV kV cd) (ps : List Str) {fs : List AV} {n : Nat} {Z : PH} {s : Shared} {E : Value → Shared → Prop} {vs ws : List Value} {ks : List (Str × Value)} {a : Addr} {us : Array Value} {m : Nat} {xs ys : List AV} {R : AV}
    (z : Bs G Z s) (i : PIn Z s.heap) (hb : ∀ S, peek K S (bindArgs (bare qual params body scope dV kV cd) ⟨vs, ks⟩) = some (ps.zip ws)) (hv : VRs Z fs ws) (hr : Room (n + 1) A) (mc : List Str) (hl : fs.length = ps.length)
    (hZ : Z a = none) (hh : s.heap.get? a = some (listO us m)) (hxs : VRs Z xs us.toList)
    (hbody : ∀ L, SJ G (A.deeper (envOfC qual scope L f cd)) (frX qual scope L f cd mc []) (ps.zip fs) [(a, xs)] (execs body (envOfC qual scope L f cd)) (retS fun σ' x => σ' = [(a, ys)] ∧ x = R))
    (hkind : (ps.all fun y => scope.names.lookup y == some .local || scope.names.lookup y == some .cell) = true := by rfl) (nd : ps.Nodup := by decide) (hnd : ((cellsFrom 0 scope.names []).map (·.1)).Nodup := by decide)
    (hmc : ∀ x ∈ mc, scope.names.lookup x = some .cell := by decide)
    (hco : scope.isCoroutine = false := by rfl) (hgen : scope.isGenerator = false := by rfl) (hk : scope.kind = .function := by rfl) :
    wpAny (model G.prog G.w) A (call (.ref f) vs ks) (fun v s' => ∃ Z' us' n', VR Z' R v ∧ Ext s s' ∧ (∀ b o, b ≠ a → s.heap.get? b = some o → s'.heap.get? b = some o) ∧ Grow Z Z' s.heap s'.heap ∧ s'.heap.get? a = some (listO us' n') ∧ VRs Z' ys us'.toList) E s := by
  have hw : ws.length = ps.length := hv.length.trans hl
  have ld : Lend Z s.heap [(a, xs)] [] (fun b => b == a) := ⟨fun p hp => by rw [List.mem_singleton.mp hp]; exact ⟨hZ, us, m, hh, hxs⟩, by simp, by simp, by simp, fun p hp => by rw [List.mem_singleton.mp hp]; simp, by simp, fun b hb => .inl (by simpa using hb)⟩
  refine wpAny_call (code_fn g [] F mc (n := n) (Nat.lt_of_le_of_lt (Nat.le_add_right _ _) hr.depth) z.sub i hb (.inl z.tok) (BindsR.zip nd hv hw) (List.all_eq_true.mpr fun p hp => List.all_eq_true.mp hkind p.1 (List.of_mem_zip hp).1) hnd hmc (fun p hp => by cases hp) ld (P := fun σ' x => σ' = [(a, ys)] ∧ x = R) hbody
    (fun v s' Z' σ' x l tk hown _ _ r p => ?_) (fun σ' x p q hq => by rw [p.1, List.mem_singleton.mp hq]; simp) hco hgen hk)
  obtain ⟨rfl, rfl⟩ := p
  obtain ⟨us', n', e1, e2⟩ := hown (a, ys) (.head _) (by simp)
  exact ⟨Z', us', n', r, l.ext, fun b o hb e => l.kp b o (by simpa using hb) e, l.g, e1, e2⟩
end
end PL

namespace PL
section
variable {G : Gl} {K : Frag} {A : Around} {env : Env} {ρ : Vars} {X : Fx} {σ σ' : Sg} {Post : Out → Prop}

/-- a call of a def that is lent a memo table -/
theorem E_lendT (g : GlOk G K) {f : Addr} {qual : Str} {params : Arguments} {body : List Stmt} {scope : Scope} {dV kV cd : Value} (F : FnK K f qual params body scope dV kV cd) (ps : List Str) {xs : List AV} (fz : List (Str × AV)) {q : Addr × Addr × Str} {n : Nat} {P : AV → Prop} {R : Sg → AV → Prop}
    {fn : Str} {fp pos : Pos} {e : Expr} {es : List Expr} (hf : PE G A X.env ρ (.Name fn fp) (.val (.ref f))) (hq : q ∈ X.tabs) (ha : PS G A X.env ρ (e :: es) xs)
    (hb : ∀ S vs, vs.length = ps.length → peek K S (bindArgs (bare qual params body scope dV kV cd) ⟨vs, []⟩) = some (ps.zip vs)) (hr : Room (n + 1) A) (mc : List Str) (hl : xs.length = ps.length)
    (hfz : ∀ p ∈ fz, scope.names.lookup p.1 = some .cell ∧ p.1 ∉ mc ∧ ∃ u, p.2 = .val u ∧ (ps.zip xs).lookup p.1 = some (.val u))
    (hbody : ∀ L, SJ G (A.deeper (envOfC qual scope L f cd)) (frX qual scope L f cd mc [q] (fz.filterMap fun p => match p.2 with | .val u => some (p.1, u) | _ => none)) (ps.zip xs) [] (execs body (envOfC qual scope L f cd)) (retS fun σ' x => σ' = [] ∧ P x))
    (hR : ∀ x, P x → R σ x)
    (hkind : (ps.all fun y => scope.names.lookup y == some .local || scope.names.lookup y == some .cell) = true := by rfl) (nd : ps.Nodup := by decide) (hnd : ((cellsFrom 0 scope.names []).map (·.1)).Nodup := by decide)
    (hmc : ∀ x ∈ mc, scope.names.lookup x = some .cell := by decide)
    (hco : scope.isCoroutine = false := by rfl) (hgen : scope.isGenerator = false := by rfl) (hk : scope.kind = .function := by rfl)
    (he : starEach (e :: es) X.env = (false, eval e X.env) :: starEach es X.env := by rfl) (hp : (backTo pos (starEach es X.env)).any (·.1) = false := by rfl) :
    EJ G A X ρ σ (eval (.Call (.Name fn fp) (e :: es) [] pos) X.env) R := fun W Z s E z st =>
  Call_ (hf.seq z st.z st.fm fun u s1 Z1 k1 g1 r1 z1 f1 => by
    cases r1.valInv
    refine callWith_K (g.kin z1.sub g1.inn) F.keep ((ha pos).seq z1 g1.inn f1 fun vs s2 Z2 k2 g2 r2 z2 f2 => ⟨g.kin z2.sub g2.inn, ?_⟩) he hp
    have st2 := (st.grow (kk k1) g1).grow (kk k2) g2
    have hv : vs.length = ps.length := r2.length.trans hl
    obtain ⟨pst, hP0, hinv⟩ := st2.tab _ hq
    have offq := st2.off _ (.tab hq)
    have ld : Lend Z2 s2.heap [] [q] (fun b => b == q.2.1) := ⟨by simp, by simp, fun r hr => by rw [List.mem_singleton.mp hr]; exact ⟨offq.1, pst, hP0, hinv⟩, by simp, by simp, fun r hr => by rw [List.mem_singleton.mp hr]; simp, fun b hb => .inr (by simpa using hb)⟩
    have hbr := BindsR.zip nd r2 hv
    refine wpAny_call (code_fn g (fz.filterMap fun p => match p.2 with | .val u => some (p.1, u) | _ => none) F mc (n := n) (Nat.lt_of_le_of_lt (Nat.le_add_right _ _) hr.depth) z2.sub g2.inn (fun S => hb S vs hv) (.inl z2.tok) hbr (List.all_eq_true.mpr fun p hp => List.all_eq_true.mp hkind p.1 (List.of_mem_zip hp).1) hnd hmc (fun p hp => ?_) ld (P := fun σ' x => σ' = [] ∧ P x) hbody
      (fun v s' Z' σ' x l tk hown htab hB r p => ?_) (fun σ' x p q hq => by cases hq) hco hgen hk)
    · obtain ⟨r, hr, e2⟩ := List.mem_filterMap.mp hp
      obtain ⟨h1, h2, w, h3, h4⟩ := hfz r hr
      rw [h3] at e2
      cases e2
      refine ⟨h1, h2, ?_⟩
      obtain ⟨w', hw, rw'⟩ := hbr _ _ h4
      cases rw'.valInv
      exact hw
    · obtain ⟨rfl, hp⟩ := p
      obtain ⟨ps', e1, e2⟩ := htab q (.head _)
      have st3 : St X W Z' ρ σ s'.heap := st2.setTab hq (fun b o hb e => l.kp b o (by simpa using hb) e) e1 l.g e2
      exact ⟨((Ext.ofKeeps k1).trans (.ofKeeps k2)).trans l.ext, Z', σ, x, (g1.sub.trans g2.sub).trans l.g.sub, st3, r, hR x hp⟩)
end
end PL

namespace PL
section
variable {G : Gl} {K : Frag} {A : Around} {env : Env} {ρ : Vars} {X : Fx} {σ σ' : Sg} {Post : Out → Prop}

theorem VRs.intAt {Z : PH} {xs : List Int} {vs : Array Value} (r : VRs Z (xs.map .int) vs.toList) {j : Nat} (h : j < vs.size) : ∃ t, vs[j] = .int (xs.getD j 0) t := by
  have hl := r.length
  rw [Array.length_toList, List.length_map] at hl
  have := r.get j (.int (xs.getD j 0)) vs[j] (by rw [List.getElem?_map, List.getElem?_eq_getElem (by omega)]; simp [List.getD, show j < xs.length by omega]) (by simp [h])
  exact this.intInv

theorem all_eq {xs ys : List Int} (h : xs.length = ys.length) : ((List.range xs.length).all fun j => xs.getD j 0 == ys.getD j 0) = decide (xs = ys) := by
  rw [Bool.eq_iff_iff, List.all_eq_true, decide_eq_true_eq]
  constructor
  · intro k
    refine List.ext_getElem h fun i h1 h2 => ?_
    have := k i (List.mem_range.mpr h1)
    simpa [List.getD, h1, h2] using this
  · rintro rfl i _
    simp

theorem cmp_eqI {xs ys : List Int} (hu : A.units < cLine) : CmpOk G A .Eq (aInts xs) (aInts ys) (decide (xs = ys)) := fun Z s E v1 v2 _ i h1 h2 => by
  obtain ⟨a, us, n, rfl, e1, r1⟩ := h1.listInv
  obtain ⟨b, ws, m, rfl, e2, r2⟩ := h2.listInv
  have l1 : us.size = xs.length := by have := r1.length; rwa [Array.length_toList, List.length_map] at this
  have l2 : ws.size = ys.length := by have := r2.length; rwa [Array.length_toList, List.length_map] at this
  by_cases q : xs.length = ys.length
  · refine PySem.SeqAt.eq_listAt (i.isList e1) (i.isList e2) (by omega) hu (e := fun j => xs.getD j 0 == ys.getD j 0) (fun j h1 h2 => ?_) ⟨?_, keeps_refl _⟩
    · obtain ⟨t, ht⟩ := r1.intAt h1
      obtain ⟨u, hu'⟩ := r2.intAt h2
      rw [ht, hu']
      exact (EqGives.int _ _ t u).at _ _
    · rw [l1, all_eq q]
  · refine PySem.SeqAt.eq_list_lengthsAt (i.isList e1) (i.isList e2) (by rw [l1, l2]; simpa using q) hu ⟨?_, keeps_refl _⟩
    rw [decide_eq_false (fun e => q (by rw [e]))]
theorem cmp_neNil (hu : A.units < cLine) : CmpOk G A .NotEq (.list []) (.list []) false := fun Z s E v1 v2 _ i h1 h2 => by
  obtain ⟨a, us, n, rfl, e1, r1⟩ := h1.listInv
  obtain ⟨b, ws, m, rfl, e2, r2⟩ := h2.listInv
  have l1 : us.size = 0 := by have := r1.length; rwa [Array.length_toList] at this
  have l2 : ws.size = 0 := by have := r2.length; rwa [Array.length_toList] at this
  refine PySem.SeqAt.RcNeAt.lists (e := fun _ => true) (i.isList e1) (i.isList e2) (by omega) hu (fun j h1 h2 => by omega) _ _ E _ ⟨?_, keeps_refl _⟩
  rw [l1]; rfl
end
end PL

namespace PL
abbrev QnF (K : Frag) : Prop := QnK K 145 86 121 135
section
variable {G : Gl} {K : Frag} {A : Around} (g : GlOk G K) (kf : KFacts K) (gf : GFacts G) (q : QnF K)
include g kf gf

theorem w_isterm (hr : Room 1 A) (n : Int) : COk G A (.ref 57) [.int n] fun Z v => VR Z (.bool (decide (n < 256))) v :=
  COk.eq (fn_ok g kf.F_ISTERMINAL ["x"] (n := 0) (fun S vs h => match vs, h with | [v], _ => kf.B_ISTERMINAL S v) hr [] rfl fun L => by
    obtain ⟨t, ht⟩ := gf.g_NT_OFFSET
    exact S_cons (S_ret (EJ_pure (PE_cmp (PE_name rfl) (PE_globI ht rfl) cmp_lt) rfl)))

theorem w_isnon (hr : Room 1 A) (n : Int) : COk G A (.ref 64) [.int n] fun Z v => VR Z (.bool (decide (256 ≤ n))) v :=
  COk.eq (fn_ok g kf.F_ISNONTERMINAL ["x"] (n := 0) (fun S vs h => match vs, h with | [v], _ => kf.B_ISNONTERMINAL S v) hr [] rfl fun L => by
    obtain ⟨t, ht⟩ := gf.g_NT_OFFSET
    exact S_cons (S_ret (EJ_pure (PE_cmp (PE_name rfl) (PE_globI ht rfl) cmp_ge) rfl)))
theorem w_iseof (hr : Room 1 A) (n : Int) : COk G A (.ref 71) [.int n] fun Z v => VR Z (.bool (decide (n = 0))) v :=
  COk.eq (fn_ok g kf.F_ISEOF ["x"] (n := 0) (fun S vs h => match vs, h with | [v], _ => kf.B_ISEOF S v) hr [] rfl fun L => by
    obtain ⟨t, ht⟩ := gf.g_ENDMARKER
    exact S_cons (S_ret (EJ_pure (PE_cmp (PE_name rfl) (PE_globI ht rfl) cmp_eq) rfl)))

include q
theorem w_bare (hr : Room 1 A) {y : AV} (hy : Nm 145 y) : COk G A (.ref 219) [y] fun Z v => VR Z (.str (bareA y)) v :=
  COk.eq (fn_ok g kf.F_law_bare ["name"] (n := 0) (fun S vs h => match vs, h with | [v], _ => kf.B_law_bare S v) hr [] rfl fun L => by
    cases hy with
    | str => exact S_cons (S_if (TJ_pt (PT_plain (PW_callB (PE_glob gf.g_isinstance rfl) (PS_cons (PE_name rfl) (PS_cons (PE_glob gf.g_QName rfl) PS_nil)) (c_isS g q)))) (fun h => by cases h) fun _ => S_nil (S_cons (S_ret (EJ_pure (PE_name rfl) rfl))))
    | qn => exact S_cons (S_if (TJ_pt (PT_plain (PW_callB (PE_glob gf.g_isinstance rfl) (PS_cons (PE_name rfl) (PS_cons (PE_glob gf.g_QName rfl) PS_nil)) (c_isQ g q)))) (fun _ => S_cons (S_ret (EJ_pure (PE_text g q (PE_name rfl)) rfl))) fun h => by cases h))

theorem w_lt (hr : Room 1 A) {a : Addr} {t : Str} {y : AV} (hy : Nm 145 y) : COk G A (.ref 121) [.qn 145 a t, y] fun Z v => VR Z (.bool (decide (t.cps.toList < (bareA y).cps.toList))) v :=
  COk.eq (fn_ok g kf.F_QName_lt ["self", "other"] (n := 0) (fun S vs h => match vs, h with | [v, u], _ => kf.B_QName_lt S v u) hr [] rfl fun L => by
    cases hy with
    | str => exact S_cons (S_if (TJ_pt (PT_plain (PW_callB (PE_glob gf.g_isinstance rfl) (PS_cons (PE_name rfl) (PS_cons (PE_glob gf.g_QName rfl) PS_nil)) (c_isS g q)))) (fun h => by cases h) fun _ => S_nil (S_cons (S_ret (EJ_pure (PE_cmp (PE_text g q (PE_name rfl)) (PE_name rfl) cmp_lts) rfl))))
    | qn => exact S_cons (S_if (TJ_pt (PT_plain (PW_callB (PE_glob gf.g_isinstance rfl) (PS_cons (PE_name rfl) (PS_cons (PE_glob gf.g_QName rfl) PS_nil)) (c_isQ g q)))) (fun _ => S_cons (S_ret (EJ_pure (PE_cmp (PE_text g q (PE_name rfl)) (PE_text g q (PE_name rfl)) cmp_lts) rfl))) fun h => by cases h))
theorem w_gt (hr : Room 1 A) {a : Addr} {t : Str} {y : AV} (hy : Nm 145 y) : COk G A (.ref 135) [.qn 145 a t, y] fun Z v => VR Z (.bool (decide ((bareA y).cps.toList < t.cps.toList))) v :=
  COk.eq (fn_ok g kf.F_QName_gt ["self", "other"] (n := 0) (fun S vs h => match vs, h with | [v, u], _ => kf.B_QName_gt S v u) hr [] rfl fun L => by
    cases hy with
    | str => exact S_cons (S_if (TJ_pt (PT_plain (PW_callB (PE_glob gf.g_isinstance rfl) (PS_cons (PE_name rfl) (PS_cons (PE_glob gf.g_QName rfl) PS_nil)) (c_isS g q)))) (fun h => by cases h) fun _ => S_nil (S_cons (S_ret (EJ_pure (PE_cmp (PE_text g q (PE_name rfl)) (PE_name rfl) cmp_gts) rfl))))
    | qn => exact S_cons (S_if (TJ_pt (PT_plain (PW_callB (PE_glob gf.g_isinstance rfl) (PS_cons (PE_name rfl) (PS_cons (PE_glob gf.g_QName rfl) PS_nil)) (c_isQ g q)))) (fun _ => S_cons (S_ret (EJ_pure (PE_cmp (PE_text g q (PE_name rfl)) (PE_text g q (PE_name rfl)) cmp_gts) rfl))) fun h => by cases h))
theorem w_qnlt (hr : Room 1 A) : QnLt G A 145 121 135 := ⟨fun a t y hy => w_lt g kf gf q hr hy, fun a t y hy => w_gt g kf gf q hr hy⟩
theorem w_make (hr : Room 1 A) {t : Str} : COk G A (.ref 145) [.str t] fun Z v => ∃ a, VR Z (.qn 145 a t) v :=
  c_make (p2 := ⟨0, 0, 0, 0⟩) g q kf.F_QName_init hr (fun S x v => ⟨_, kf.B_QName_init S x v, rfl⟩) rfl rfl rfl rfl rfl rfl
end
end PL

namespace PL

/-! the three cells -/
def cellsAt (c0 : List Int) (ns : List Int) : Nat → List Int
  | 0 => c0
  | k + 1 => (cellsAt c0 ns k).set (k % 3) (((cellsAt c0 ns k).getD (k % 3) 0 + ns.getD k 0).fmod 1000000)
theorem cellsAt_length (c0 ns : List Int) : ∀ k, (cellsAt c0 ns k).length = c0.length
  | 0 => rfl
  | k + 1 => by unfold cellsAt; rw [List.length_set]; exact cellsAt_length c0 ns k

theorem fmod_nat (a b : Nat) : (a : Int).fmod (b : Int) = ((a % b : Nat) : Int) := by
  rw [Int.fmod_eq_emod_of_nonneg _ (by omega)]; rfl

section
variable {G : Gl} {K : Frag} {A : Around} (g : GlOk G K) (kf : KFacts K) (gf : GFacts G) (q : QnF K)
include g kf gf

theorem w_cells_body {X : Fx} (ns : List Int) (hn : ns.length ≤ 1000) (hh : A.handled = none)
    (k1 : X.env.kindOf "cells" = some .local) (k2 : X.env.kindOf "place" = some .local) (k3 : X.env.kindOf "range" = some .globalImplicit) (k4 : X.env.kindOf "len" = some .globalImplicit) :
    SJ G A X [("script", .ilist ns)] [] (execs (fB 20) X.env) (retP (· = aInts (cellsAt [70, 13, 1647] ns ns.length))) := by
  refine S_cons (S_newlist (.loc k1) (PS_cons PE_int (PS_cons PE_int (PS_cons PE_int PS_nil))) (by decide) fun a => ?_)
  refine S_cons (S_forN (x := "place") (fun i ρ σ => ρ = ([("cells", .ref a), ("script", .ilist ns)] : Vars) ∧ σ = [(a, (cellsAt [70, 13, 1647] ns i).map .int)])
    (PW_callT (PE_glob gf.g_range k3) (PS_cons (PW_callB (PE_glob gf.g_len k4) (PS_cons (PE_name rfl) PS_nil) (c_lenI (by omega))) PS_nil) c_range1)
    (iter_up hh (by omega)) (.loc k2) ⟨_, ⟨rfl, rfl⟩, .cons rfl (.cons rfl .nil)⟩ ?_ ?_)
  · rintro i it ρ1 σ1 hget ⟨rfl, rfl⟩
    obtain ⟨hi, rfl⟩ := range_up hget
    have hl := cellsAt_length [70, 13, 1647] ns i
    have h3 : i % 3 < (cellsAt [70, 13, 1647] ns i).length := by rw [hl]; exact Nat.mod_lt _ (by decide)
    have e3 : ((i : Int).fmod 3) = ((i % 3 : Nat) : Int) := fmod_nat i 3
    refine S_cons (S_setitem rfl (EJ_view (ρ' := [("place", .int i), ("cells", aInts (cellsAt [70, 13, 1647] ns i)), ("script", .ilist ns)]) (.same rfl (.own rfl (.head _) (.same rfl .nil)))
      (PE_mod (PE_add (PE_itemL (PE_name rfl) (PE.ci (PE_mod (PE_name rfl) PE_int (by decide)) e3) (by omega) (by omega) (by rw [Int.toNat_natCast]; exact int_map_get h3))
        (PE_itemI (x := ns.getD i 0) (PE_name rfl) (PE_name rfl) (by omega) (by omega) (by rw [Int.toNat_natCast]; simp [List.getD, hi]))) PE_int (by decide)) rfl
      ⟨_, _, _, EJ_pure (PE.ci (PE_mod (PE_name rfl) PE_int (by decide)) e3) ⟨rfl, rfl⟩, by omega, by omega, by rw [List.length_map]; omega, .head, ?_⟩))
    refine S_nil ⟨_, ⟨rfl, ?_⟩, .cons rfl (.cons rfl .nil)⟩
    rw [Int.toNat_natCast]
    simp [cellsAt, List.map_set]
  · rintro ρ1 σ1 ⟨rfl, e⟩ ρ2 hsub
    rw [len_up] at e
    subst e
    exact S_cons (S_freeze (hsub "cells" _ rfl) (S_ret (EJ_pure (PE_name setV_self) rfl)))
theorem w_cells (hr : Room 1 A) (ns : List Int) (hn : ns.length ≤ 1000) : COk G A (.ref 198) [.ilist ns] fun Z v => VR Z (aInts (cellsAt [70, 13, 1647] ns ns.length)) v :=
  COk.eq (fn_ok g kf.F_law_cells ["script"] (n := 0) (fun S vs h => match vs, h with | [v], _ => kf.B_law_cells S v) hr [] rfl fun L => w_cells_body g kf gf ns hn hr.handled rfl rfl rfl rfl)
end
end PL

namespace PL

/-! the hand -/
structure Hand where
  f : Addr
  letters : Str
  spelled : List Str
def handOf (n : Int) : Hand :=
  if n.fmod 5 = 0 then ⟨163, "<>", ["&lt;", "&gt;"]⟩ else if n.fmod 5 = 1 then ⟨184, "<>", ["&lt;", "&gt;"]⟩ else if n.fmod 5 = 2 then ⟨177, "\">", ["&quot;", "&gt;"]⟩
  else if n.fmod 5 = 3 then ⟨191, "\"<", ["&quot;", "&lt;"]⟩ else ⟨170, "\"<>", ["&quot;", "&lt;", "&gt;"]⟩
def Hand.av (h : Hand) : AV := .tup [.val (.ref h.f), .str h.letters, aStrs h.spelled]

section
variable {G : Gl} {K : Frag} {A : Around} (g : GlOk G K) (kf : KFacts K) (gf : GFacts G) (q : QnF K)
include g kf gf

theorem w_hand (hr : Room 1 A) (n : Int) : COk G A (.ref 205) [.int n] fun Z v => VR Z (handOf n).av v :=
  COk.eq (fn_ok g kf.F_law_hand ["number"] (n := 0) (fun S vs h => match vs, h with | [v], _ => kf.B_law_hand S v) hr [] rfl fun L => by
    refine S_cons (S_if (TJ_pt (PT_cmp (PE_mod (PE_name rfl) PE_int (by decide)) PE_int cmp_eq)) (fun h => ?_) fun h => S_nil ?_)
    · have e : handOf n = ⟨163, "<>", ["&lt;", "&gt;"]⟩ := by unfold handOf; rw [if_pos (of_decide_eq_true h)]
      rw [e]
      exact S_cons (S_ret (EJ_pure (PE_tup (PS_cons (PE_glob gf.g_escape_cdata rfl) (PS_cons PE_str (PS_cons (PE_lst (PS_cons PE_str (PS_cons PE_str PS_nil)) (by decide)) PS_nil))) (by decide)) rfl))
    have h0 := of_decide_eq_false h
    refine S_cons (S_if (TJ_pt (PT_cmp (PE_mod (PE_name rfl) PE_int (by decide)) PE_int cmp_eq)) (fun h => ?_) fun h => S_nil ?_)
    · have e : handOf n = ⟨184, "<>", ["&lt;", "&gt;"]⟩ := by unfold handOf; rw [if_neg h0, if_pos (of_decide_eq_true h)]
      rw [e]
      exact S_cons (S_ret (EJ_pure (PE_tup (PS_cons (PE_glob gf.g_escape_cdata_c14n rfl) (PS_cons PE_str (PS_cons (PE_lst (PS_cons PE_str (PS_cons PE_str PS_nil)) (by decide)) PS_nil))) (by decide)) rfl))
    have h1 := of_decide_eq_false h
    refine S_cons (S_if (TJ_pt (PT_cmp (PE_mod (PE_name rfl) PE_int (by decide)) PE_int cmp_eq)) (fun h => ?_) fun h => S_nil ?_)
    · have e : handOf n = ⟨177, "\">", ["&quot;", "&gt;"]⟩ := by unfold handOf; rw [if_neg h0, if_neg h1, if_pos (of_decide_eq_true h)]
      rw [e]
      exact S_cons (S_ret (EJ_pure (PE_tup (PS_cons (PE_glob gf.g_escape_attrib_html rfl) (PS_cons PE_str (PS_cons (PE_lst (PS_cons PE_str (PS_cons PE_str PS_nil)) (by decide)) PS_nil))) (by decide)) rfl))
    have h2 := of_decide_eq_false h
    refine S_cons (S_if (TJ_pt (PT_cmp (PE_mod (PE_name rfl) PE_int (by decide)) PE_int cmp_eq)) (fun h => ?_) fun h => S_nil ?_)
    · have e : handOf n = ⟨191, "\"<", ["&quot;", "&lt;"]⟩ := by unfold handOf; rw [if_neg h0, if_neg h1, if_neg h2, if_pos (of_decide_eq_true h)]
      rw [e]
      exact S_cons (S_ret (EJ_pure (PE_tup (PS_cons (PE_glob gf.g_escape_attrib_c14n rfl) (PS_cons PE_str (PS_cons (PE_lst (PS_cons PE_str (PS_cons PE_str PS_nil)) (by decide)) PS_nil))) (by decide)) rfl))
    have h3 := of_decide_eq_false h
    have e : handOf n = ⟨170, "\"<>", ["&quot;", "&lt;", "&gt;"]⟩ := by unfold handOf; rw [if_neg h0, if_neg h1, if_neg h2, if_neg h3]
    rw [e]
    exact S_cons (S_ret (EJ_pure (PE_tup (PS_cons (PE_glob gf.g_escape_attrib rfl) (PS_cons PE_str (PS_cons (PE_lst (PS_cons PE_str (PS_cons PE_str (PS_cons PE_str PS_nil))) (by decide)) PS_nil))) (by decide)) rfl)))
end
end PL

namespace PL

def sOf (l : List Nat) : Str := ⟨l.toArray⟩
theorem sOf_len (l : List Nat) : (sOf l).length = l.length := by simp [sOf, Str.length]
theorem sOf_list (l : List Nat) : (sOf l).cps.toList = l := by simp [sOf]
theorem subL_len (c : Nat) (z : List Nat) (hz : 1 ≤ z.length) : ∀ x : List Nat, (subL c z x).length ≤ z.length * x.length
  | [] => Nat.le_refl _
  | k :: r => by
    have ih := subL_len c z hz r
    show ((if k = c then z else [k]) ++ subL c z r).length ≤ z.length * (r.length + 1)
    rw [List.length_append, Nat.mul_add, Nat.mul_one]
    have : (if k = c then z else [k]).length ≤ z.length := by split <;> simp [hz]
    omega

section
variable {G : Gl} {K : Frag} {A : Around} {X : Fx} {σ : Sg} {Post : Out → Prop}
theorem S_esc {l z : List Nat} {y : Str} {c : Nat} {k0 : Nat} {p0 p1 p2 p3 p9 p10 : Pos} {e2 : Expr} (hk : X.env.kindOf "text" = some .local) (hy : y = ⟨#[c]⟩) (hrep : PE G A X.env [("text", .str (sOf l))] e2 (.str ⟨(subL c z (sOf l).cps.toList).toArray⟩))
    (hp : Post (.next [("text", .str (sOf (subL c z l)))] σ)) (hs : swapsWith e2 (some (.Name "text" p3)) p9.line X.env = pure false := by rfl) :
    SJ G A X [("text", .str (sOf l))] σ (exec (.If (.Compare (.Constant (.str y) k0 p0) [.In] [.Name "text" p1] p2) [.Assign [.Name "text" p3] e2 p9] [] p10) X.env) Post := by
  subst hy
  refine S_if (TJ_pt (PT_cmp PE_str (PE_name rfl) cmp_ins)) (fun h => ?_) fun h => ?_
  · refine S_cons (S_assign (.loc hk) (EJ_pure hrep ?_) hs)
    rw [sOf_list]
    exact S_nil hp
  · rw [StrLaws.found_one, sOf_list] at h
    have : subL c z l = l := subL_free (of_decide_eq_false h)
    rw [this] at hp
    exact S_nil hp
end

section
variable {G : Gl} {K : Frag} {A : Around} (g : GlOk G K) (kf : KFacts K) (gf : GFacts G) (q : QnF K)
include g kf gf

def escCdata (l : List Nat) : List Nat := subL 62 [38, 103, 116, 59] (subL 60 [38, 108, 116, 59] (subL 38 [38, 97, 109, 112, 59] l))
theorem w_esc_cdata (hr : Room 1 A) {l : List Nat} (hl : l.length ≤ 12) : COk G A (.ref 163) [.str (sOf l)] fun Z v => VR Z (.str (sOf (escCdata l))) v :=
  COk.eq (fn_ok g kf.F_escape_cdata ["text"] (n := 0) (fun S vs h => match vs, h with | [v], _ => kf.B_escape_cdata S v) hr [] rfl fun L => by
    have b0 := subL_len 38 [38, 97, 109, 112, 59] (by decide) (l)
    have b1 := subL_len 60 [38, 108, 116, 59] (by decide) (subL 38 [38, 97, 109, 112, 59] l)
    have b2 := subL_len 62 [38, 103, 116, 59] (by decide) (subL 60 [38, 108, 116, 59] (subL 38 [38, 97, 109, 112, 59] l))
    simp only [List.length_cons, List.length_nil] at b0 b1 b2
    refine S_cons (S_try (S_cons (S_esc (c := 38) (z := [38, 97, 109, 112, 59]) rfl rfl (PE_replace (PE_name rfl) rfl (by decide) (by rw [sOf_len]; omega) (by decide)) ?_)))
    refine S_cons (S_esc (c := 60) (z := [38, 108, 116, 59]) rfl rfl (PE_replace (PE_name rfl) rfl (by decide) (by rw [sOf_len]; omega) (by decide)) ?_)
    refine S_cons (S_esc (c := 62) (z := [38, 103, 116, 59]) rfl rfl (PE_replace (PE_name rfl) rfl (by decide) (by rw [sOf_len]; omega) (by decide)) ?_)
    exact S_cons (S_ret (EJ_pure (PE_name rfl) rfl)))
def escAttrib (l : List Nat) : List Nat := subL 9 [38, 35, 48, 57, 59] (subL 10 [38, 35, 49, 48, 59] (subL 13 [38, 35, 49, 51, 59] (subL 34 [38, 113, 117, 111, 116, 59] (subL 62 [38, 103, 116, 59] (subL 60 [38, 108, 116, 59] (subL 38 [38, 97, 109, 112, 59] l))))))
theorem w_esc_attrib (hr : Room 1 A) {l : List Nat} (hl : l.length ≤ 12) : COk G A (.ref 170) [.str (sOf l)] fun Z v => VR Z (.str (sOf (escAttrib l))) v :=
  COk.eq (fn_ok g kf.F_escape_attrib ["text"] (n := 0) (fun S vs h => match vs, h with | [v], _ => kf.B_escape_attrib S v) hr [] rfl fun L => by
    have b0 := subL_len 38 [38, 97, 109, 112, 59] (by decide) (l)
    have b1 := subL_len 60 [38, 108, 116, 59] (by decide) (subL 38 [38, 97, 109, 112, 59] l)
    have b2 := subL_len 62 [38, 103, 116, 59] (by decide) (subL 60 [38, 108, 116, 59] (subL 38 [38, 97, 109, 112, 59] l))
    have b3 := subL_len 34 [38, 113, 117, 111, 116, 59] (by decide) (subL 62 [38, 103, 116, 59] (subL 60 [38, 108, 116, 59] (subL 38 [38, 97, 109, 112, 59] l)))
    have b4 := subL_len 13 [38, 35, 49, 51, 59] (by decide) (subL 34 [38, 113, 117, 111, 116, 59] (subL 62 [38, 103, 116, 59] (subL 60 [38, 108, 116, 59] (subL 38 [38, 97, 109, 112, 59] l))))
    have b5 := subL_len 10 [38, 35, 49, 48, 59] (by decide) (subL 13 [38, 35, 49, 51, 59] (subL 34 [38, 113, 117, 111, 116, 59] (subL 62 [38, 103, 116, 59] (subL 60 [38, 108, 116, 59] (subL 38 [38, 97, 109, 112, 59] l)))))
    have b6 := subL_len 9 [38, 35, 48, 57, 59] (by decide) (subL 10 [38, 35, 49, 48, 59] (subL 13 [38, 35, 49, 51, 59] (subL 34 [38, 113, 117, 111, 116, 59] (subL 62 [38, 103, 116, 59] (subL 60 [38, 108, 116, 59] (subL 38 [38, 97, 109, 112, 59] l))))))
    simp only [List.length_cons, List.length_nil] at b0 b1 b2 b3 b4 b5 b6
    refine S_cons (S_try (S_cons (S_esc (c := 38) (z := [38, 97, 109, 112, 59]) rfl rfl (PE_replace (PE_name rfl) rfl (by decide) (by rw [sOf_len]; omega) (by decide)) ?_)))
    refine S_cons (S_esc (c := 60) (z := [38, 108, 116, 59]) rfl rfl (PE_replace (PE_name rfl) rfl (by decide) (by rw [sOf_len]; omega) (by decide)) ?_)
    refine S_cons (S_esc (c := 62) (z := [38, 103, 116, 59]) rfl rfl (PE_replace (PE_name rfl) rfl (by decide) (by rw [sOf_len]; omega) (by decide)) ?_)
    refine S_cons (S_esc (c := 34) (z := [38, 113, 117, 111, 116, 59]) rfl rfl (PE_replace (PE_name rfl) rfl (by decide) (by rw [sOf_len]; omega) (by decide)) ?_)
    refine S_cons (S_esc (c := 13) (z := [38, 35, 49, 51, 59]) rfl rfl (PE_replace (PE_name rfl) rfl (by decide) (by rw [sOf_len]; omega) (by decide)) ?_)
    refine S_cons (S_esc (c := 10) (z := [38, 35, 49, 48, 59]) rfl rfl (PE_replace (PE_name rfl) rfl (by decide) (by rw [sOf_len]; omega) (by decide)) ?_)
    refine S_cons (S_esc (c := 9) (z := [38, 35, 48, 57, 59]) rfl rfl (PE_replace (PE_name rfl) rfl (by decide) (by rw [sOf_len]; omega) (by decide)) ?_)
    exact S_cons (S_ret (EJ_pure (PE_name rfl) rfl)))
def escAttribHtml (l : List Nat) : List Nat := subL 34 [38, 113, 117, 111, 116, 59] (subL 62 [38, 103, 116, 59] (subL 38 [38, 97, 109, 112, 59] l))
theorem w_esc_attrib_html (hr : Room 1 A) {l : List Nat} (hl : l.length ≤ 12) : COk G A (.ref 177) [.str (sOf l)] fun Z v => VR Z (.str (sOf (escAttribHtml l))) v :=
  COk.eq (fn_ok g kf.F_escape_attrib_html ["text"] (n := 0) (fun S vs h => match vs, h with | [v], _ => kf.B_escape_attrib_html S v) hr [] rfl fun L => by
    have b0 := subL_len 38 [38, 97, 109, 112, 59] (by decide) (l)
    have b1 := subL_len 62 [38, 103, 116, 59] (by decide) (subL 38 [38, 97, 109, 112, 59] l)
    have b2 := subL_len 34 [38, 113, 117, 111, 116, 59] (by decide) (subL 62 [38, 103, 116, 59] (subL 38 [38, 97, 109, 112, 59] l))
    simp only [List.length_cons, List.length_nil] at b0 b1 b2
    refine S_cons (S_try (S_cons (S_esc (c := 38) (z := [38, 97, 109, 112, 59]) rfl rfl (PE_replace (PE_name rfl) rfl (by decide) (by rw [sOf_len]; omega) (by decide)) ?_)))
    refine S_cons (S_esc (c := 62) (z := [38, 103, 116, 59]) rfl rfl (PE_replace (PE_name rfl) rfl (by decide) (by rw [sOf_len]; omega) (by decide)) ?_)
    refine S_cons (S_esc (c := 34) (z := [38, 113, 117, 111, 116, 59]) rfl rfl (PE_replace (PE_name rfl) rfl (by decide) (by rw [sOf_len]; omega) (by decide)) ?_)
    exact S_cons (S_ret (EJ_pure (PE_name rfl) rfl)))
def escCdataC14n (l : List Nat) : List Nat := subL 13 [38, 35, 120, 68, 59] (subL 62 [38, 103, 116, 59] (subL 60 [38, 108, 116, 59] (subL 38 [38, 97, 109, 112, 59] l)))
theorem w_esc_cdata_c14n (hr : Room 1 A) {l : List Nat} (hl : l.length ≤ 12) : COk G A (.ref 184) [.str (sOf l)] fun Z v => VR Z (.str (sOf (escCdataC14n l))) v :=
  COk.eq (fn_ok g kf.F_escape_cdata_c14n ["text"] (n := 0) (fun S vs h => match vs, h with | [v], _ => kf.B_escape_cdata_c14n S v) hr [] rfl fun L => by
    have b0 := subL_len 38 [38, 97, 109, 112, 59] (by decide) (l)
    have b1 := subL_len 60 [38, 108, 116, 59] (by decide) (subL 38 [38, 97, 109, 112, 59] l)
    have b2 := subL_len 62 [38, 103, 116, 59] (by decide) (subL 60 [38, 108, 116, 59] (subL 38 [38, 97, 109, 112, 59] l))
    have b3 := subL_len 13 [38, 35, 120, 68, 59] (by decide) (subL 62 [38, 103, 116, 59] (subL 60 [38, 108, 116, 59] (subL 38 [38, 97, 109, 112, 59] l)))
    simp only [List.length_cons, List.length_nil] at b0 b1 b2 b3
    refine S_cons (S_try (S_cons (S_esc (c := 38) (z := [38, 97, 109, 112, 59]) rfl rfl (PE_replace (PE_name rfl) rfl (by decide) (by rw [sOf_len]; omega) (by decide)) ?_)))
    refine S_cons (S_esc (c := 60) (z := [38, 108, 116, 59]) rfl rfl (PE_replace (PE_name rfl) rfl (by decide) (by rw [sOf_len]; omega) (by decide)) ?_)
    refine S_cons (S_esc (c := 62) (z := [38, 103, 116, 59]) rfl rfl (PE_replace (PE_name rfl) rfl (by decide) (by rw [sOf_len]; omega) (by decide)) ?_)
    refine S_cons (S_esc (c := 13) (z := [38, 35, 120, 68, 59]) rfl rfl (PE_replace (PE_name rfl) rfl (by decide) (by rw [sOf_len]; omega) (by decide)) ?_)
    exact S_cons (S_ret (EJ_pure (PE_name rfl) rfl)))
def escAttribC14n (l : List Nat) : List Nat := subL 13 [38, 35, 120, 68, 59] (subL 10 [38, 35, 120, 65, 59] (subL 9 [38, 35, 120, 57, 59] (subL 34 [38, 113, 117, 111, 116, 59] (subL 60 [38, 108, 116, 59] (subL 38 [38, 97, 109, 112, 59] l)))))
theorem w_esc_attrib_c14n (hr : Room 1 A) {l : List Nat} (hl : l.length ≤ 12) : COk G A (.ref 191) [.str (sOf l)] fun Z v => VR Z (.str (sOf (escAttribC14n l))) v :=
  COk.eq (fn_ok g kf.F_escape_attrib_c14n ["text"] (n := 0) (fun S vs h => match vs, h with | [v], _ => kf.B_escape_attrib_c14n S v) hr [] rfl fun L => by
    have b0 := subL_len 38 [38, 97, 109, 112, 59] (by decide) (l)
    have b1 := subL_len 60 [38, 108, 116, 59] (by decide) (subL 38 [38, 97, 109, 112, 59] l)
    have b2 := subL_len 34 [38, 113, 117, 111, 116, 59] (by decide) (subL 60 [38, 108, 116, 59] (subL 38 [38, 97, 109, 112, 59] l))
    have b3 := subL_len 9 [38, 35, 120, 57, 59] (by decide) (subL 34 [38, 113, 117, 111, 116, 59] (subL 60 [38, 108, 116, 59] (subL 38 [38, 97, 109, 112, 59] l)))
    have b4 := subL_len 10 [38, 35, 120, 65, 59] (by decide) (subL 9 [38, 35, 120, 57, 59] (subL 34 [38, 113, 117, 111, 116, 59] (subL 60 [38, 108, 116, 59] (subL 38 [38, 97, 109, 112, 59] l))))
    have b5 := subL_len 13 [38, 35, 120, 68, 59] (by decide) (subL 10 [38, 35, 120, 65, 59] (subL 9 [38, 35, 120, 57, 59] (subL 34 [38, 113, 117, 111, 116, 59] (subL 60 [38, 108, 116, 59] (subL 38 [38, 97, 109, 112, 59] l)))))
    simp only [List.length_cons, List.length_nil] at b0 b1 b2 b3 b4 b5
    refine S_cons (S_try (S_cons (S_esc (c := 38) (z := [38, 97, 109, 112, 59]) rfl rfl (PE_replace (PE_name rfl) rfl (by decide) (by rw [sOf_len]; omega) (by decide)) ?_)))
    refine S_cons (S_esc (c := 60) (z := [38, 108, 116, 59]) rfl rfl (PE_replace (PE_name rfl) rfl (by decide) (by rw [sOf_len]; omega) (by decide)) ?_)
    refine S_cons (S_esc (c := 34) (z := [38, 113, 117, 111, 116, 59]) rfl rfl (PE_replace (PE_name rfl) rfl (by decide) (by rw [sOf_len]; omega) (by decide)) ?_)
    refine S_cons (S_esc (c := 9) (z := [38, 35, 120, 57, 59]) rfl rfl (PE_replace (PE_name rfl) rfl (by decide) (by rw [sOf_len]; omega) (by decide)) ?_)
    refine S_cons (S_esc (c := 10) (z := [38, 35, 120, 65, 59]) rfl rfl (PE_replace (PE_name rfl) rfl (by decide) (by rw [sOf_len]; omega) (by decide)) ?_)
    refine S_cons (S_esc (c := 13) (z := [38, 35, 120, 68, 59]) rfl rfl (PE_replace (PE_name rfl) rfl (by decide) (by rw [sOf_len]; omega) (by decide)) ?_)
    exact S_cons (S_ret (EJ_pure (PE_name rfl) rfl)))
end
end PL

namespace PL

/-- the search by halves -/
def bs (p : Nat → Bool) (lo hi : Nat) : Nat :=
  if h : lo < hi then (if p ((lo + hi) / 2) then bs p lo ((lo + hi) / 2) else bs p ((lo + hi) / 2 + 1) hi) else lo
termination_by hi - lo
theorem bs_lt {p : Nat → Bool} {lo hi : Nat} (h : lo < hi) : bs p lo hi = if p ((lo + hi) / 2) then bs p lo ((lo + hi) / 2) else bs p ((lo + hi) / 2 + 1) hi := by
  rw [bs, dif_pos h]
theorem bs_ge {p : Nat → Bool} {lo hi : Nat} (h : ¬ lo < hi) : bs p lo hi = lo := by
  rw [bs, dif_neg h]

def strLt (x y : Str) : Bool := decide (x.cps.toList < y.cps.toList)

/-- a key function -/
structure KeyFn (G : Gl) (n : Nat) (kx : AV) (kf : Str → Str) (P : Str → Prop) : Prop where
  isnt : ∀ A, CmpOk G A .Is kx .none false
  cw : ∀ A, CwOk G A kx
  call : ∀ A, Room n A → ∀ y, Nm 145 y → P (bareA y) → CallOk G A kx [y] fun Z v => VR Z (.str (kf (bareA y))) v

theorem VRs.cons' {Z : PH} {x : AV} {xs : List AV} {vs : List Value} (h : VRs Z (x :: xs) vs) : ∃ v us, vs = v :: us ∧ VR Z x v ∧ VRs Z xs us := by
  cases h with
  | cons h k => exact ⟨_, _, rfl, h, k⟩
section
variable {G : Gl} {K : Frag} {A : Around} (g : GlOk G K) (kf : KFacts K) (gf : GFacts G) (q : QnF K)
include g kf gf q

theorem half_ok {lo hi : Nat} : ((lo : Int) + (hi : Int)).fdiv 2 = (((lo + hi) / 2 : Nat) : Int) := by
  have : ((lo : Int) + (hi : Int)) = ((lo + hi : Nat) : Int) := by omega
  rw [this, Int.fdiv_eq_ediv_of_nonneg _ (by decide)]
  rfl


abbrev bis5 (xs : List AV) (x : AV) (lo hi : Nat) (k : AV) : Vars := [("a", .list xs), ("x", x), ("lo", .int lo), ("hi", .int hi), ("key", k)]

theorem w_bisR (hr : Room 2 A) {xs : List AV} {x : AV} (hx : Nm 145 x) (hxs : ∀ y ∈ xs, Nm 145 y) (hl : xs.length ≤ 1000) :
    COk G A (.ref 32) [.list xs, x, .int 0, .none] fun Z v => VR Z (.int (bs (fun i => strLt (bareA x) (bareA (xs.getD i .none))) 0 xs.length : Nat)) v := fun Z s E vs z i h => by
  obtain ⟨va, vs, rfl, ha, h⟩ := h.cons'
  obtain ⟨vx, vs, rfl, hvx, h⟩ := h.cons'
  obtain ⟨vlo, vs, rfl, hlo, h⟩ := h.cons'
  obtain ⟨vhi, vs, rfl, hhi, h⟩ := h.cons'
  cases h
  refine wpAny_mono (fn_core g kf.F_bisect_right ["a", "x", "lo", "hi", "key"] (n := 1) (ws := [va, vx, vlo, vhi, .none]) (P := (· = .int (bs (fun i => strLt (bareA x) (bareA (xs.getD i .none))) 0 xs.length : Nat))) z i (fun S => kf.B_bisect_right S va vx vlo vhi)
    (.cons ha (.cons hvx (.cons hlo (.cons hhi (.cons .none .nil))))) hr [] rfl fun L => ?_) (fun _ _ p => post_eq p) fun _ _ e => e
  have hr' : Room 1 (A.deeper (envOfC "bisect_right" (fS 2) L 32 (.ref 31))) := hr.deeper
  refine S_cons (S_if (TJ_pt (PT_cmp (PE_name rfl) PE_int cmp_lt)) (fun h => by cases h) fun _ => S_nil ?_)
  refine S_cons (S_if (TJ_pt (PT_cmp (PE_name rfl) PE_none cmp_noneIs)) (fun _ => ?_) fun h => by cases h)
  refine S_cons (S_assign (.loc rfl) (EJ_pure (PW_callB (PE_glob gf.g_len rfl) (PS_cons (PE_name rfl) PS_nil) (c_lenL (by omega))) (S_nil ?_)))
  refine S_cons (S_if (TJ_pt (PT_cmp (PE_name rfl) PE_none cmp_noneIs)) (fun _ => ?_) fun h => by cases h)
  refine S_cons (S_whileN (fun m ρ σ => ∃ lo hi, m = hi - lo ∧ lo ≤ hi ∧ hi ≤ xs.length ∧ ρ = bis5 xs x lo hi .none ∧ bs (fun i => strLt (bareA x) (bareA (xs.getD i .none))) lo hi = bs (fun i => strLt (bareA x) (bareA (xs.getD i .none))) 0 xs.length) (xs.length - 0)
    ⟨_, ⟨0, xs.length, rfl, by omega, by omega, rfl, rfl⟩, .cons rfl (.cons rfl (.cons rfl (.cons rfl (.cons rfl .nil))))⟩ ?_)
  rintro m ρ1 σ1 ⟨lo, hi, rfl, h1, h2, rfl, hb⟩
  refine ⟨_, TJ_pt (PT_cmp (PE_name rfl) (PE_name rfl) cmp_lt), fun h => ?_, fun h ρ2 hs => S_nil (S_cons (S_ret (EJ_pure (PE_name (hs "lo" _ rfl)) ?_)))⟩
  · have hlt : lo < hi := by have := of_decide_eq_true h; omega
    have hm : (lo + hi) / 2 < xs.length := by omega
    rw [bs_lt hlt] at hb
    refine S_cons (S_assign (.loc rfl) (EJ_pure (PE.ci (PE_fdiv (PE_add (PE_name rfl) (PE_name rfl)) PE_int (by decide) (by decide)) (half_ok g kf gf q)) ?_))
    refine S_cons (S_if (TJ_pt (PT_cmp (PE_name rfl) (PE_itemL (x := xs.getD ((lo + hi) / 2) .none) (PE_name rfl) (PE_name rfl) (by omega) (by omega) (by rw [Int.toNat_natCast, List.getD_eq_getElem?_getD, List.getElem?_eq_getElem hm]; rfl))
      (cmp_ltq g q (w_qnlt g kf gf q hr') (by have := hr'.units; omega) hx (hxs _ (by rw [List.getD_eq_getElem?_getD, List.getElem?_eq_getElem hm]; exact List.getElem_mem hm))))) (fun hc => ?_) fun hc => ?_)
    · refine S_cons (S_assign (.loc rfl) (EJ_pure (PE_name rfl) (S_nil (S_nil ⟨(lo + hi) / 2 - lo, by omega, _, ⟨lo, (lo + hi) / 2, rfl, by omega, by omega, rfl, ?_⟩, .cons rfl (.cons rfl (.cons rfl (.cons rfl (.cons rfl .nil))))⟩))))
      have hc' : strLt (bareA x) (bareA (xs.getD ((lo + hi) / 2) .none)) = true := hc
      rw [if_pos hc'] at hb; exact hb
    · refine S_cons (S_assign (.loc rfl) (EJ_pure (PE.ci (PE_add (PE_name rfl) PE_int) (by omega : (((lo + hi) / 2 : Nat) : Int) + 1 = (((lo + hi) / 2 + 1 : Nat) : Int))) (S_nil (S_nil ⟨hi - ((lo + hi) / 2 + 1), by omega, _, ⟨(lo + hi) / 2 + 1, hi, rfl, by omega, by omega, rfl, ?_⟩, .cons rfl (.cons rfl (.cons rfl (.cons rfl (.cons rfl .nil))))⟩))))
      have hc' : strLt (bareA x) (bareA (xs.getD ((lo + hi) / 2) .none)) = false := hc
      rw [if_neg (Bool.eq_false_iff.mp hc')] at hb; exact hb
  · have hge : ¬ lo < hi := by have := of_decide_eq_false h; omega
    rw [bs_ge hge] at hb
    rw [← hb]; rfl
theorem w_bisL (hr : Room 2 A) {xs : List AV} {x : AV} (hx : Nm 145 x) (hxs : ∀ y ∈ xs, Nm 145 y) (hl : xs.length ≤ 1000) :
    COk G A (.ref 50) [.list xs, x, .int 0, .none] fun Z v => VR Z (.int (bs (fun i => !strLt (bareA (xs.getD i .none)) (bareA x)) 0 xs.length : Nat)) v := fun Z s E vs z i h => by
  obtain ⟨va, vs, rfl, ha, h⟩ := h.cons'
  obtain ⟨vx, vs, rfl, hvx, h⟩ := h.cons'
  obtain ⟨vlo, vs, rfl, hlo, h⟩ := h.cons'
  obtain ⟨vhi, vs, rfl, hhi, h⟩ := h.cons'
  cases h
  refine wpAny_mono (fn_core g kf.F_bisect_left ["a", "x", "lo", "hi", "key"] (n := 1) (ws := [va, vx, vlo, vhi, .none]) (P := (· = .int (bs (fun i => !strLt (bareA (xs.getD i .none)) (bareA x)) 0 xs.length : Nat))) z i (fun S => kf.B_bisect_left S va vx vlo vhi)
    (.cons ha (.cons hvx (.cons hlo (.cons hhi (.cons .none .nil))))) hr [] rfl fun L => ?_) (fun _ _ p => post_eq p) fun _ _ e => e
  have hr' : Room 1 (A.deeper (envOfC "bisect_left" (fS 4) L 50 (.ref 49))) := hr.deeper
  refine S_cons (S_if (TJ_pt (PT_cmp (PE_name rfl) PE_int cmp_lt)) (fun h => by cases h) fun _ => S_nil ?_)
  refine S_cons (S_if (TJ_pt (PT_cmp (PE_name rfl) PE_none cmp_noneIs)) (fun _ => ?_) fun h => by cases h)
  refine S_cons (S_assign (.loc rfl) (EJ_pure (PW_callB (PE_glob gf.g_len rfl) (PS_cons (PE_name rfl) PS_nil) (c_lenL (by omega))) (S_nil ?_)))
  refine S_cons (S_if (TJ_pt (PT_cmp (PE_name rfl) PE_none cmp_noneIs)) (fun _ => ?_) fun h => by cases h)
  refine S_cons (S_whileN (fun m ρ σ => ∃ lo hi, m = hi - lo ∧ lo ≤ hi ∧ hi ≤ xs.length ∧ ρ = bis5 xs x lo hi .none ∧ bs (fun i => !strLt (bareA (xs.getD i .none)) (bareA x)) lo hi = bs (fun i => !strLt (bareA (xs.getD i .none)) (bareA x)) 0 xs.length) (xs.length - 0)
    ⟨_, ⟨0, xs.length, rfl, by omega, by omega, rfl, rfl⟩, .cons rfl (.cons rfl (.cons rfl (.cons rfl (.cons rfl .nil))))⟩ ?_)
  rintro m ρ1 σ1 ⟨lo, hi, rfl, h1, h2, rfl, hb⟩
  refine ⟨_, TJ_pt (PT_cmp (PE_name rfl) (PE_name rfl) cmp_lt), fun h => ?_, fun h ρ2 hs => S_nil (S_cons (S_ret (EJ_pure (PE_name (hs "lo" _ rfl)) ?_)))⟩
  · have hlt : lo < hi := by have := of_decide_eq_true h; omega
    have hm : (lo + hi) / 2 < xs.length := by omega
    rw [bs_lt hlt] at hb
    refine S_cons (S_assign (.loc rfl) (EJ_pure (PE.ci (PE_fdiv (PE_add (PE_name rfl) (PE_name rfl)) PE_int (by decide) (by decide)) (half_ok g kf gf q)) ?_))
    refine S_cons (S_if (TJ_pt (PT_cmp (PE_itemL (x := xs.getD ((lo + hi) / 2) .none) (PE_name rfl) (PE_name rfl) (by omega) (by omega) (by rw [Int.toNat_natCast, List.getD_eq_getElem?_getD, List.getElem?_eq_getElem hm]; rfl)) (PE_name rfl)
      (cmp_ltq g q (w_qnlt g kf gf q hr') (by have := hr'.units; omega) (hxs _ (by rw [List.getD_eq_getElem?_getD, List.getElem?_eq_getElem hm]; exact List.getElem_mem hm)) hx))) (fun hc => ?_) fun hc => ?_)
    · refine S_cons (S_assign (.loc rfl) (EJ_pure (PE.ci (PE_add (PE_name rfl) PE_int) (by omega : (((lo + hi) / 2 : Nat) : Int) + 1 = (((lo + hi) / 2 + 1 : Nat) : Int))) (S_nil (S_nil ⟨hi - ((lo + hi) / 2 + 1), by omega, _, ⟨(lo + hi) / 2 + 1, hi, rfl, by omega, by omega, rfl, ?_⟩, .cons rfl (.cons rfl (.cons rfl (.cons rfl (.cons rfl .nil))))⟩))))
      have hc' : strLt (bareA (xs.getD ((lo + hi) / 2) .none)) (bareA x) = true := hc
      rw [hc'] at hb; exact hb
    · refine S_cons (S_assign (.loc rfl) (EJ_pure (PE_name rfl) (S_nil (S_nil ⟨(lo + hi) / 2 - lo, by omega, _, ⟨lo, (lo + hi) / 2, rfl, by omega, by omega, rfl, ?_⟩, .cons rfl (.cons rfl (.cons rfl (.cons rfl (.cons rfl .nil))))⟩))))
      have hc' : strLt (bareA (xs.getD ((lo + hi) / 2) .none)) (bareA x) = false := hc
      rw [hc'] at hb; exact hb
  · have hge : ¬ lo < hi := by have := of_decide_eq_false h; omega
    rw [bs_ge hge] at hb
    rw [← hb]; rfl
theorem w_bisRK {n : Nat} {kx : AV} {hand : Str → Str} {P : Str → Prop} (ky : KeyFn G n kx hand P) (hr : Room (n + 1) A) {xs : List AV} {x : Str} (hxs : ∀ y ∈ xs, Nm 145 y ∧ P (bareA y)) (hl : xs.length ≤ 1000) :
    COkK G A (.ref 32) [.list xs, .str x, .int 0, .none] "key" kx fun Z v => VR Z (.int (bs (fun i => strLt x (hand (bareA (xs.getD i .none)))) 0 xs.length : Nat)) v := fun Z s E vs kv z i h hkv => by
  obtain ⟨va, vs, rfl, ha, h⟩ := h.cons'
  obtain ⟨vx, vs, rfl, hvx, h⟩ := h.cons'
  obtain ⟨vlo, vs, rfl, hlo, h⟩ := h.cons'
  obtain ⟨vhi, vs, rfl, hhi, h⟩ := h.cons'
  cases h
  refine wpAny_mono (fn_core g kf.F_bisect_right ["a", "x", "lo", "hi", "key"] (n := n) (ws := [va, vx, vlo, vhi, kv]) (P := (· = .int (bs (fun i => strLt x (hand (bareA (xs.getD i .none)))) 0 xs.length : Nat))) z i (fun S => kf.B_bisect_right_k S va vx vlo vhi kv)
    (.cons ha (.cons hvx (.cons hlo (.cons hhi (.cons hkv .nil))))) hr [] rfl fun L => ?_) (fun _ _ p => post_eq p) fun _ _ e => e
  have hr' : Room n (A.deeper (envOfC "bisect_right" (fS 2) L 32 (.ref 31))) := hr.deeper
  refine S_cons (S_if (TJ_pt (PT_cmp (PE_name rfl) PE_int cmp_lt)) (fun h => by cases h) fun _ => S_nil ?_)
  refine S_cons (S_if (TJ_pt (PT_cmp (PE_name rfl) PE_none cmp_noneIs)) (fun _ => ?_) fun h => by cases h)
  refine S_cons (S_assign (.loc rfl) (EJ_pure (PW_callB (PE_glob gf.g_len rfl) (PS_cons (PE_name rfl) PS_nil) (c_lenL (by omega))) (S_nil ?_)))
  refine S_cons (S_if (TJ_pt (PT_cmp (PE_name rfl) PE_none (ky.isnt _))) (fun h => by cases h) fun _ => ?_)
  refine S_cons (S_whileN (fun m ρ σ => ∃ lo hi, m = hi - lo ∧ lo ≤ hi ∧ hi ≤ xs.length ∧ ρ = bis5 xs (.str x) lo hi kx ∧ bs (fun i => strLt x (hand (bareA (xs.getD i .none)))) lo hi = bs (fun i => strLt x (hand (bareA (xs.getD i .none)))) 0 xs.length) (xs.length - 0)
    ⟨_, ⟨0, xs.length, rfl, by omega, by omega, rfl, rfl⟩, .cons rfl (.cons rfl (.cons rfl (.cons rfl (.cons rfl .nil))))⟩ ?_)
  rintro m ρ1 σ1 ⟨lo, hi, rfl, h1, h2, rfl, hb⟩
  refine ⟨_, TJ_pt (PT_cmp (PE_name rfl) (PE_name rfl) cmp_lt), fun h => ?_, fun h ρ2 hs => S_nil (S_cons (S_ret (EJ_pure (PE_name (hs "lo" _ rfl)) ?_)))⟩
  · have hlt : lo < hi := by have := of_decide_eq_true h; omega
    have hm : (lo + hi) / 2 < xs.length := by omega
    rw [bs_lt hlt] at hb
    refine S_cons (S_assign (.loc rfl) (EJ_pure (PE.ci (PE_fdiv (PE_add (PE_name rfl) (PE_name rfl)) PE_int (by decide) (by decide)) (half_ok g kf gf q)) ?_))
    refine S_cons (S_if (TJ_pt (PT_cmp (PE_name rfl) (PE_of (PW_callV (PE_name rfl) (ky.cw _) (PS_cons (PE_itemL (x := xs.getD ((lo + hi) / 2) .none) (PE_name rfl) (PE_name rfl) (by omega) (by omega) (by rw [Int.toNat_natCast, List.getD_eq_getElem?_getD, List.getElem?_eq_getElem hm]; rfl)) PS_nil) (ky.call _ hr' _ (hxs _ (by rw [List.getD_eq_getElem?_getD, List.getElem?_eq_getElem hm]; exact List.getElem_mem hm)).1 (hxs _ (by rw [List.getD_eq_getElem?_getD, List.getElem?_eq_getElem hm]; exact List.getElem_mem hm)).2))) cmp_lts)) (fun hc => ?_) fun hc => ?_)
    · refine S_cons (S_assign (.loc rfl) (EJ_pure (PE_name rfl) (S_nil (S_nil ⟨(lo + hi) / 2 - lo, by omega, _, ⟨lo, (lo + hi) / 2, rfl, by omega, by omega, rfl, ?_⟩, .cons rfl (.cons rfl (.cons rfl (.cons rfl (.cons rfl .nil))))⟩))))
      have hc' : strLt x (hand (bareA (xs.getD ((lo + hi) / 2) .none))) = true := hc
      rw [if_pos hc'] at hb; exact hb
    · refine S_cons (S_assign (.loc rfl) (EJ_pure (PE.ci (PE_add (PE_name rfl) PE_int) (by omega : (((lo + hi) / 2 : Nat) : Int) + 1 = (((lo + hi) / 2 + 1 : Nat) : Int))) (S_nil (S_nil ⟨hi - ((lo + hi) / 2 + 1), by omega, _, ⟨(lo + hi) / 2 + 1, hi, rfl, by omega, by omega, rfl, ?_⟩, .cons rfl (.cons rfl (.cons rfl (.cons rfl (.cons rfl .nil))))⟩))))
      have hc' : strLt x (hand (bareA (xs.getD ((lo + hi) / 2) .none))) = false := hc
      rw [if_neg (Bool.eq_false_iff.mp hc')] at hb; exact hb
  · have hge : ¬ lo < hi := by have := of_decide_eq_false h; omega
    rw [bs_ge hge] at hb
    rw [← hb]; rfl
theorem w_bisLK {n : Nat} {kx : AV} {hand : Str → Str} {P : Str → Prop} (ky : KeyFn G n kx hand P) (hr : Room (n + 1) A) {xs : List AV} {x : Str} (hxs : ∀ y ∈ xs, Nm 145 y ∧ P (bareA y)) (hl : xs.length ≤ 1000) :
    COkK G A (.ref 50) [.list xs, .str x, .int 0, .none] "key" kx fun Z v => VR Z (.int (bs (fun i => !strLt (hand (bareA (xs.getD i .none))) x) 0 xs.length : Nat)) v := fun Z s E vs kv z i h hkv => by
  obtain ⟨va, vs, rfl, ha, h⟩ := h.cons'
  obtain ⟨vx, vs, rfl, hvx, h⟩ := h.cons'
  obtain ⟨vlo, vs, rfl, hlo, h⟩ := h.cons'
  obtain ⟨vhi, vs, rfl, hhi, h⟩ := h.cons'
  cases h
  refine wpAny_mono (fn_core g kf.F_bisect_left ["a", "x", "lo", "hi", "key"] (n := n) (ws := [va, vx, vlo, vhi, kv]) (P := (· = .int (bs (fun i => !strLt (hand (bareA (xs.getD i .none))) x) 0 xs.length : Nat))) z i (fun S => kf.B_bisect_left_k S va vx vlo vhi kv)
    (.cons ha (.cons hvx (.cons hlo (.cons hhi (.cons hkv .nil))))) hr [] rfl fun L => ?_) (fun _ _ p => post_eq p) fun _ _ e => e
  have hr' : Room n (A.deeper (envOfC "bisect_left" (fS 4) L 50 (.ref 49))) := hr.deeper
  refine S_cons (S_if (TJ_pt (PT_cmp (PE_name rfl) PE_int cmp_lt)) (fun h => by cases h) fun _ => S_nil ?_)
  refine S_cons (S_if (TJ_pt (PT_cmp (PE_name rfl) PE_none cmp_noneIs)) (fun _ => ?_) fun h => by cases h)
  refine S_cons (S_assign (.loc rfl) (EJ_pure (PW_callB (PE_glob gf.g_len rfl) (PS_cons (PE_name rfl) PS_nil) (c_lenL (by omega))) (S_nil ?_)))
  refine S_cons (S_if (TJ_pt (PT_cmp (PE_name rfl) PE_none (ky.isnt _))) (fun h => by cases h) fun _ => ?_)
  refine S_cons (S_whileN (fun m ρ σ => ∃ lo hi, m = hi - lo ∧ lo ≤ hi ∧ hi ≤ xs.length ∧ ρ = bis5 xs (.str x) lo hi kx ∧ bs (fun i => !strLt (hand (bareA (xs.getD i .none))) x) lo hi = bs (fun i => !strLt (hand (bareA (xs.getD i .none))) x) 0 xs.length) (xs.length - 0)
    ⟨_, ⟨0, xs.length, rfl, by omega, by omega, rfl, rfl⟩, .cons rfl (.cons rfl (.cons rfl (.cons rfl (.cons rfl .nil))))⟩ ?_)
  rintro m ρ1 σ1 ⟨lo, hi, rfl, h1, h2, rfl, hb⟩
  refine ⟨_, TJ_pt (PT_cmp (PE_name rfl) (PE_name rfl) cmp_lt), fun h => ?_, fun h ρ2 hs => S_nil (S_cons (S_ret (EJ_pure (PE_name (hs "lo" _ rfl)) ?_)))⟩
  · have hlt : lo < hi := by have := of_decide_eq_true h; omega
    have hm : (lo + hi) / 2 < xs.length := by omega
    rw [bs_lt hlt] at hb
    refine S_cons (S_assign (.loc rfl) (EJ_pure (PE.ci (PE_fdiv (PE_add (PE_name rfl) (PE_name rfl)) PE_int (by decide) (by decide)) (half_ok g kf gf q)) ?_))
    refine S_cons (S_if (TJ_pt (PT_cmp (PE_of (PW_callV (PE_name rfl) (ky.cw _) (PS_cons (PE_itemL (x := xs.getD ((lo + hi) / 2) .none) (PE_name rfl) (PE_name rfl) (by omega) (by omega) (by rw [Int.toNat_natCast, List.getD_eq_getElem?_getD, List.getElem?_eq_getElem hm]; rfl)) PS_nil) (ky.call _ hr' _ (hxs _ (by rw [List.getD_eq_getElem?_getD, List.getElem?_eq_getElem hm]; exact List.getElem_mem hm)).1 (hxs _ (by rw [List.getD_eq_getElem?_getD, List.getElem?_eq_getElem hm]; exact List.getElem_mem hm)).2))) (PE_name rfl) cmp_lts)) (fun hc => ?_) fun hc => ?_)
    · refine S_cons (S_assign (.loc rfl) (EJ_pure (PE.ci (PE_add (PE_name rfl) PE_int) (by omega : (((lo + hi) / 2 : Nat) : Int) + 1 = (((lo + hi) / 2 + 1 : Nat) : Int))) (S_nil (S_nil ⟨hi - ((lo + hi) / 2 + 1), by omega, _, ⟨(lo + hi) / 2 + 1, hi, rfl, by omega, by omega, rfl, ?_⟩, .cons rfl (.cons rfl (.cons rfl (.cons rfl (.cons rfl .nil))))⟩))))
      have hc' : strLt (hand (bareA (xs.getD ((lo + hi) / 2) .none))) x = true := hc
      rw [hc'] at hb; exact hb
    · refine S_cons (S_assign (.loc rfl) (EJ_pure (PE_name rfl) (S_nil (S_nil ⟨(lo + hi) / 2 - lo, by omega, _, ⟨lo, (lo + hi) / 2, rfl, by omega, by omega, rfl, ?_⟩, .cons rfl (.cons rfl (.cons rfl (.cons rfl (.cons rfl .nil))))⟩))))
      have hc' : strLt (hand (bareA (xs.getD ((lo + hi) / 2) .none))) x = false := hc
      rw [hc'] at hb; exact hb
  · have hge : ¬ lo < hi := by have := of_decide_eq_false h; omega
    rw [bs_ge hge] at hb
    rw [← hb]; rfl
end
end PL

namespace PL
theorem bs_range {p : Nat → Bool} : ∀ {lo hi : Nat}, lo ≤ hi → lo ≤ bs p lo hi ∧ bs p lo hi ≤ hi := by
  intro lo hi
  fun_induction bs p lo hi with
  | case1 lo hi h hp ih => intro _; have := ih (by omega); omega
  | case2 lo hi h hp ih => intro _; have := ih (by omega); omega
  | case3 lo hi h => intro _; omega

def insAt (xs : List AV) (k : Nat) (v : AV) : List AV := xs.take k ++ v :: xs.drop k
def posR (xs : List AV) (x : AV) : Nat := bs (fun i => strLt (bareA x) (bareA (xs.getD i .none))) 0 xs.length
def posL (xs : List AV) (x : AV) : Nat := bs (fun i => !strLt (bareA (xs.getD i .none)) (bareA x)) 0 xs.length
def posRK (hand : Str → Str) (xs : List AV) (x : Str) : Nat := bs (fun i => strLt x (hand (bareA (xs.getD i .none)))) 0 xs.length
def posLK (hand : Str → Str) (xs : List AV) (x : Str) : Nat := bs (fun i => !strLt (hand (bareA (xs.getD i .none))) x) 0 xs.length

section
variable {G : Gl} {K : Frag} {A : Around} (g : GlOk G K) (kf : KFacts K) (gf : GFacts G) (q : QnF K)
include g kf gf q

theorem w_insR (hr : Room 3 A) {a : Addr} {xs : List AV} {x : AV} (hx : Nm 145 x) (hxs : ∀ y ∈ xs, Nm 145 y) (hl : xs.length ≤ 1000) :
    LendOk G A (.ref 23) a xs [x] [] (insAt xs (posR xs x) x) .none := fun Z s E vs kvs us n z i hZ hh hus h hk => by
  obtain ⟨vx, vs, rfl, hvx, h⟩ := h.cons'
  cases h
  cases hk
  obtain ⟨t, hb⟩ := kf.B_insort_right
  refine lend_core g kf.F_insort_right ["a", "x", "lo", "hi", "key"] (n := 2) (ws := [.ref a, vx, .int 0 t, .none, .none]) z i (fun S => hb S (.ref a) vx) (.cons .ref (.cons hvx (.cons .int (.cons .none (.cons .none .nil))))) hr [] rfl hZ hh hus fun L => ?_
  have hr' : Room 2 (A.deeper (envOfC "insort_right" (fS 1) L 23 (.ref 22))) := hr.deeper
  refine S_cons (S_if (TJ_pt (PT_cmp (PE_name rfl) PE_none cmp_noneIs)) (fun _ => ?_) fun h => by cases h)
  refine S_cons (S_assign (.loc rfl) (EJ_view (ρ' := [("a", .list xs), ("x", x), ("lo", .int 0), ("hi", .none)]) (.own rfl (.head _) (.same rfl (.same rfl (.same rfl .nil))))
    (PW_callK g (PE_glob gf.g_bisect_right rfl) kf.F_bisect_right.keep (PS_cons (PE_name rfl) (PS_cons (PE_name rfl) (PS_cons (PE_name rfl) (PS_cons (PE_name rfl) PS_nil)))) (w_bisR g kf gf q hr' hx hxs hl)) rfl (S_nil ?_)))
  exact S_cons (S_insert (k := posR xs x) (v := x) rfl (.head _) (by omega) (PS_cons (PE_name rfl) (PS_cons (PE_name rfl) PS_nil)) (bs_range (by omega)).2 .head (S_nil ⟨rfl, rfl⟩))
theorem w_insL (hr : Room 3 A) {a : Addr} {xs : List AV} {x : AV} (hx : Nm 145 x) (hxs : ∀ y ∈ xs, Nm 145 y) (hl : xs.length ≤ 1000) :
    LendOk G A (.ref 41) a xs [x] [] (insAt xs (posL xs x) x) .none := fun Z s E vs kvs us n z i hZ hh hus h hk => by
  obtain ⟨vx, vs, rfl, hvx, h⟩ := h.cons'
  cases h
  cases hk
  obtain ⟨t, hb⟩ := kf.B_insort_left
  refine lend_core g kf.F_insort_left ["a", "x", "lo", "hi", "key"] (n := 2) (ws := [.ref a, vx, .int 0 t, .none, .none]) z i (fun S => hb S (.ref a) vx) (.cons .ref (.cons hvx (.cons .int (.cons .none (.cons .none .nil))))) hr [] rfl hZ hh hus fun L => ?_
  have hr' : Room 2 (A.deeper (envOfC "insort_left" (fS 3) L 41 (.ref 40))) := hr.deeper
  refine S_cons (S_if (TJ_pt (PT_cmp (PE_name rfl) PE_none cmp_noneIs)) (fun _ => ?_) fun h => by cases h)
  refine S_cons (S_assign (.loc rfl) (EJ_view (ρ' := [("a", .list xs), ("x", x), ("lo", .int 0), ("hi", .none)]) (.own rfl (.head _) (.same rfl (.same rfl (.same rfl .nil))))
    (PW_callK g (PE_glob gf.g_bisect_left rfl) kf.F_bisect_left.keep (PS_cons (PE_name rfl) (PS_cons (PE_name rfl) (PS_cons (PE_name rfl) (PS_cons (PE_name rfl) PS_nil)))) (w_bisL g kf gf q hr' hx hxs hl)) rfl (S_nil ?_)))
  exact S_cons (S_insert (k := posL xs x) (v := x) rfl (.head _) (by omega) (PS_cons (PE_name rfl) (PS_cons (PE_name rfl) PS_nil)) (bs_range (by omega)).2 .head (S_nil ⟨rfl, rfl⟩))
theorem w_insRK {n : Nat} {kx : AV} {hand : Str → Str} {P : Str → Prop} (ky : KeyFn G n kx hand P) (hr : Room (n + 2) A) {a : Addr} {xs : List AV} {x : AV} (hx : Nm 145 x) (hp : P (bareA x)) (hxs : ∀ y ∈ xs, Nm 145 y ∧ P (bareA y)) (hl : xs.length ≤ 1000) :
    LendOk G A (.ref 23) a xs [x] [("key", kx)] (insAt xs (posRK hand xs (hand (bareA x))) x) .none := fun Z s E vs kvs us m z i hZ hh hus h hk => by
  obtain ⟨vx, vs, rfl, hvx, h⟩ := h.cons'
  cases h
  obtain ⟨vk, kvs, rfl, hvk, hk⟩ := hk.cons'
  cases hk
  obtain ⟨t, hb⟩ := kf.B_insort_right_k
  refine lend_core g kf.F_insort_right ["a", "x", "lo", "hi", "key"] (n := n + 1) (ws := [.ref a, vx, .int 0 t, .none, vk]) z i (fun S => hb S (.ref a) vx vk) (.cons .ref (.cons hvx (.cons .int (.cons .none (.cons hvk .nil))))) hr [] rfl hZ hh hus fun L => ?_
  have hr' : Room (n + 1) (A.deeper (envOfC "insort_right" (fS 1) L 23 (.ref 22))) := hr.deeper
  refine S_cons (S_if (TJ_pt (PT_cmp (PE_name rfl) PE_none (ky.isnt _))) (fun h => by cases h) fun _ => ?_)
  refine S_cons (S_assign (.loc rfl) (EJ_view (ρ' := [("a", .list xs), ("x", x), ("lo", .int 0), ("hi", .none), ("key", kx)]) (.own rfl (.head _) (.same rfl (.same rfl (.same rfl (.same rfl .nil)))))
    (PW_callKW g (PE_glob gf.g_bisect_right rfl) kf.F_bisect_right.keep (PS_cons (PE_name rfl) (PS_cons (PE_of (PW_callV (PE_name rfl) (ky.cw _) (PS_cons (PE_name rfl) PS_nil) (ky.call _ (hr'.le (Nat.le_succ n)) _ hx hp))) (PS_cons (PE_name rfl) (PS_cons (PE_name rfl) PS_nil)))) (PE_name rfl) (w_bisRK g kf gf q ky hr' hxs hl)) rfl (S_nil ?_)))
  exact S_cons (S_insert (k := posRK hand xs (hand (bareA x))) (v := x) rfl (.head _) (by omega) (PS_cons (PE_name rfl) (PS_cons (PE_name rfl) PS_nil)) (bs_range (by omega)).2 .head (S_nil ⟨rfl, rfl⟩))
theorem w_insLK {n : Nat} {kx : AV} {hand : Str → Str} {P : Str → Prop} (ky : KeyFn G n kx hand P) (hr : Room (n + 2) A) {a : Addr} {xs : List AV} {x : AV} (hx : Nm 145 x) (hp : P (bareA x)) (hxs : ∀ y ∈ xs, Nm 145 y ∧ P (bareA y)) (hl : xs.length ≤ 1000) :
    LendOk G A (.ref 41) a xs [x] [("key", kx)] (insAt xs (posLK hand xs (hand (bareA x))) x) .none := fun Z s E vs kvs us m z i hZ hh hus h hk => by
  obtain ⟨vx, vs, rfl, hvx, h⟩ := h.cons'
  cases h
  obtain ⟨vk, kvs, rfl, hvk, hk⟩ := hk.cons'
  cases hk
  obtain ⟨t, hb⟩ := kf.B_insort_left_k
  refine lend_core g kf.F_insort_left ["a", "x", "lo", "hi", "key"] (n := n + 1) (ws := [.ref a, vx, .int 0 t, .none, vk]) z i (fun S => hb S (.ref a) vx vk) (.cons .ref (.cons hvx (.cons .int (.cons .none (.cons hvk .nil))))) hr [] rfl hZ hh hus fun L => ?_
  have hr' : Room (n + 1) (A.deeper (envOfC "insort_left" (fS 3) L 41 (.ref 40))) := hr.deeper
  refine S_cons (S_if (TJ_pt (PT_cmp (PE_name rfl) PE_none (ky.isnt _))) (fun h => by cases h) fun _ => ?_)
  refine S_cons (S_assign (.loc rfl) (EJ_view (ρ' := [("a", .list xs), ("x", x), ("lo", .int 0), ("hi", .none), ("key", kx)]) (.own rfl (.head _) (.same rfl (.same rfl (.same rfl (.same rfl .nil)))))
    (PW_callKW g (PE_glob gf.g_bisect_left rfl) kf.F_bisect_left.keep (PS_cons (PE_name rfl) (PS_cons (PE_of (PW_callV (PE_name rfl) (ky.cw _) (PS_cons (PE_name rfl) PS_nil) (ky.call _ (hr'.le (Nat.le_succ n)) _ hx hp))) (PS_cons (PE_name rfl) (PS_cons (PE_name rfl) PS_nil)))) (PE_name rfl) (w_bisLK g kf gf q ky hr' hxs hl)) rfl (S_nil ?_)))
  exact S_cons (S_insert (k := posLK hand xs (hand (bareA x))) (v := x) rfl (.head _) (by omega) (PS_cons (PE_name rfl) (PS_cons (PE_name rfl) PS_nil)) (bs_range (by omega)).2 .head (S_nil ⟨rfl, rfl⟩))
end
end PL

namespace PL

/-- the hand, as a function of texts -/
structure HandOk (G : Gl) (K : Frag) (hf : Addr) (hand : Str → Str) (P : Str → Prop) : Prop where
  keep : keepIn K (.ref hf) = true
  call : ∀ A, Room 1 A → ∀ t, P t → COk G A (.ref hf) [.str t] fun Z v => VR Z (.str (hand t)) v

def lamP (pa : Pos) : Arguments := ⟨[], [⟨"name", none, pa⟩], none, [], [], none, []⟩
def lamB (p1 p2 p3 p4 p5 : Pos) : Expr := .Call (.Name "hand" p1) [.Call (.Name "_law_bare" p2) [.Name "name" p3] [] p4] [] p5

section
variable {G : Gl} {K : Frag} {A : Around} (g : GlOk G K) (kf : KFacts K) (gf : GFacts G) (q : QnF K)
include g kf gf q

theorem lam_key {pa p1 p2 p3 p4 p5 : Pos} {scope : Scope} {qual : Str} {hf : Addr} {hand : Str → Str} {P : Str → Prop} (hd : HandOk G K hf hand P)
    (hnc : ∀ y ∈ scope.names, y.2 ≠ .cell) (n1 : scope.names.lookup ("name" : Str) = some .local) (n2 : scope.names.lookup ("hand" : Str) = some .free) (n3 : scope.names.lookup ("_law_bare" : Str) = some .globalImplicit)
    (hco : scope.isCoroutine = false) (hgen : scope.isGenerator = false) (hk : scope.kind = .function) :
    KeyFn G 2 (.lam (lamP pa) (lamB p1 p2 p3 p4 p5) scope qual [("hand", .ref hf)]) hand P where
  isnt := fun A => cmp_isNone rfl
  cw := fun A => cw_lam
  call := fun A hr y hy hP => by
    refine c_lam g (x := "name") (ρc := [("hand", .val (.ref hf))]) (hr.le (by omega)) (fun fd v h1 h2 h3 => ?_) hnc n1 (fun z w e => ?_) (fun L a clos cd => ?_) hco hgen hk
    · cases fd; cases h1; cases h2; cases h3; rfl
    · rw [lookup_cons_if] at e
      by_cases q : z = ("hand" : Str)
      · subst q; rw [if_pos rfl] at e; cases e; exact ⟨n2, .ref hf, rfl, fun Z => .val⟩
      · rw [if_neg q] at e; cases e
    · have hr' : Room 1 (A.deeper (lamEnv scope L a clos qual cd)) := hr.deeper
      exact PW_callK g (PE_name rfl) hd.keep (PS_cons (PW_callK g (PE_glob gf.g_law_bare n3) kf.F_law_bare.keep (PS_cons (PE_name rfl) PS_nil) (w_bare g kf gf q hr' hy)) PS_nil) (hd.call _ hr' _ hP)
end

/-- the rows, laid so far -/
inductive Rows (hand : Str → Str) (cut : Nat → Str) (dress : Int) : Nat → List AV → List AV → List AV → Prop
  | nil : Rows hand cut dress 0 [] [] []
  | step {k : Nat} {n p l : List AV} {th la : AV} : Rows hand cut dress k n p l → Nm 145 th → bareA th = cut k → (∃ b, la = .qn 145 b (cut k)) →
      Rows hand cut dress (k + 1)
        (if k % 2 = 0 then insAt (insAt n (posR n th) th) (posL (insAt n (posR n th) th) la) la else insAt (insAt n (posR n th) th) (posR (insAt n (posR n th) th) la) la)
        (if k % 2 = 0 then insAt (insAt p (posLK hand p (hand (cut k))) th) (posRK hand (insAt p (posLK hand p (hand (cut k))) th) (hand (cut k))) la else insAt (insAt p (posLK hand p (hand (cut k))) th) (posLK hand (insAt p (posLK hand p (hand (cut k))) th) (hand (cut k))) la)
        (l ++ [la])

theorem insAt_len (xs : List AV) (k : Nat) (v : AV) : (insAt xs k v).length = xs.length + 1 := by
  unfold insAt
  rw [List.length_append, List.length_cons, List.length_take, List.length_drop]; omega
theorem insAt_mem {xs : List AV} {k : Nat} {v y : AV} (h : y ∈ insAt xs k v) : y = v ∨ y ∈ xs := by
  unfold insAt at h
  rcases List.mem_append.mp h with h | h
  · exact .inr (List.mem_of_mem_take h)
  · rcases List.mem_cons.mp h with h | h
    · exact .inl h
    · exact .inr (List.mem_of_mem_drop h)

structure RowsFacts (cut : Nat → Str) (k : Nat) (n p l : List AV) : Prop where
  ln : n.length = 2 * k
  lp : p.length = 2 * k
  ll : l.length = k
  mn : ∀ y ∈ n, Nm 145 y ∧ ∃ j, j < k ∧ bareA y = cut j
  mp : ∀ y ∈ p, Nm 145 y ∧ ∃ j, j < k ∧ bareA y = cut j
  ml : ∀ j (h : j < l.length), ∃ b, l[j] = .qn 145 b (cut j)
theorem Rows.facts {hand : Str → Str} {cut : Nat → Str} {dress : Int} {k : Nat} {n p l : List AV} (r : Rows hand cut dress k n p l) : RowsFacts cut k n p l := by
  induction r with
  | nil => exact ⟨rfl, rfl, rfl, by simp, by simp, by simp⟩
  | @step k n p l th la _ hth hb hla ih =>
    obtain ⟨b, rfl⟩ := hla
    have nth : Nm 145 th ∧ ∃ j, j < k + 1 ∧ bareA th = cut j := ⟨hth, k, by omega, hb⟩
    have nla : Nm 145 (.qn 145 b (cut k)) ∧ ∃ j, j < k + 1 ∧ bareA (.qn 145 b (cut k)) = cut j := ⟨.qn, k, by omega, rfl⟩
    have up : ∀ {xs : List AV}, (∀ y ∈ xs, Nm 145 y ∧ ∃ j, j < k ∧ bareA y = cut j) → ∀ i j y, y ∈ insAt (insAt xs i th) j (.qn 145 b (cut k)) → Nm 145 y ∧ ∃ j, j < k + 1 ∧ bareA y = cut j := fun h i j y hy => by
      rcases insAt_mem hy with rfl | hy
      · exact nla
      · rcases insAt_mem hy with rfl | hy
        · exact nth
        · obtain ⟨h1, j, h2, h3⟩ := h y hy
          exact ⟨h1, j, by omega, h3⟩
    refine ⟨?_, ?_, ?_, ?_, ?_, ?_⟩
    · split <;> (rw [insAt_len, insAt_len, ih.ln]; omega)
    · split <;> (rw [insAt_len, insAt_len, ih.lp]; omega)
    · rw [List.length_append, ih.ll]; rfl
    · split <;> exact up ih.mn _ _
    · split <;> exact up ih.mp _ _
    · intro j h
      rw [List.length_append, ih.ll] at h
      rw [List.getElem_append]
      split
      · exact ih.ml j (by omega)
      · rename_i q
        have : j = k := by have := ih.ll; simp at h; omega
        subst this
        exact ⟨b, by simp⟩
end PL

namespace PL
def forB : Option Stmt → List Stmt
  | some (.For _ _ b _ _) => b
  | _ => []
def tabQ : Str := ("_law_rows" : Str) ++ ".<locals>." ++ "<lambda>"
theorem PS.at {G : Gl} {A : Around} {env : Env} {ρ : Vars} {es : List Expr} {xs : List AV} {pos : Pos} (h : PS G A env ρ es xs) : PW G A env ρ (spliced (backTo pos (starEach es env))) fun Z vs => VRs Z xs vs := h pos
theorem SWj.mono {α : Type} {G : Gl} {A : Around} {X : Fx} {ρ : Vars} {σ : Sg} {t : Sem α} {R R' : PH → α → Prop} (h : SWj G A X ρ σ t R) (k : ∀ Z v, R Z v → R' Z v) : SWj G A X ρ σ t R' := fun W Z s E z st =>
  wpAny_mono (h W Z s E z st) (fun v _ p => let ⟨k1, Z1, g, r⟩ := p; ⟨k1, Z1, g, k _ _ r⟩) fun _ _ e => e
theorem cutS_len (x : Str) (l u : Option Nat) : (cutS x l u).length ≤ x.length := by
  simp only [cutS, Str.length, List.size_toArray, List.length_drop, List.length_take, Array.length_toList]; omega

abbrev suf (T : Str) (k : Nat) : Str := cutS T (some k) none

section
variable {G : Gl} {K : Frag} {A : Around} (g : GlOk G K) (kf : KFacts K) (gf : GFacts G) (q : QnF K) (gl : GlLam G) (hcode : ∀ h, PIn G.Z0 h → CodeHd h 225 221)
include g kf gf q gl hcode

abbrev rowsX (L : Addr) (hf : Addr) : Fx := frX "_law_rows" (fS 24) L 226 (.ref 225) [] [(225, 221, tabQ)] [("hand", .ref hf)]
abbrev rowsV (T : Str) (hf : Addr) (D : Int) (aN aP aL aT : Addr) : Vars := [("text", .str T), ("hand", .val (.ref hf)), ("dress", .int D), ("names", .ref aN), ("pages", .ref aP), ("lasts", .ref aL), ("told", .ref aT)]
abbrev rowsS (aN aP aL aT : Addr) (i : Nat) (n p l : List AV) : Sg := [(aT, List.replicate (4 * i) .none), (aL, l), (aP, p), (aN, n)]

theorem w_rows_tail {L hf : Addr} {hand : Str → Str} (hr : Room 4 A) (hd : HandOk G K hf hand fun t => t.length ≤ 12) {T : Str} (hT : T.length ≤ 12) {D : Int} {aN aP aL aT : Addr} {i : Nat} (hi : i < T.length) {n p l : List AV}
    (hrow : Rows hand (suf T) D i n p l) {th : AV} (hth : Nm 145 th) (hbt : bareA th = suf T i) {P : Out → Prop}
    (hP : ∀ ρ2 σ2 n' p' l', Sub (rowsV T hf D aN aP aL aT) ρ2 → Rows hand (suf T) D (i + 1) n' p' l' → σ2 = rowsS aN aP aL aT (i + 1) n' p' l' → P (.next ρ2 σ2)) :
    SJ G A (rowsX L hf) (("thing", th) :: ("place", .int i) :: rowsV T hf D aN aP aL aT) (rowsS aN aP aL aT i n p l) (execs ((forB ((fB 24)[4]?)).drop 2) (rowsX L hf).env) P := by
  have hh := hr.handled
  have rf := hrow.facts
  have bT : T.length ≤ 1000000 := by omega
  have hPc : ∀ j, (suf T j).length ≤ 12 := fun j => Nat.le_trans (cutS_len T _ _) hT
  refine S_cons (S_append (a := aL) (xs0 := l) rfl (.tail _ (.head _)) (EJ_pureR (PW_callK g (PE_glob gf.g_QName rfl) q.keep (PS_cons (PE_sliceS (PE_name rfl) (PPart_some (PE_name rfl) rfl) PPart_none bT) PS_nil) (w_make g kf gf q (hr.le (by omega)))) fun Z v hv => ?_))
  obtain ⟨b, hv⟩ := hv
  refine ⟨_, hv, l, _, .tail .head, by rw [rf.ll]; omega, ?_⟩
  have hmn : ∀ y ∈ n, Nm 145 y := fun y hy => (rf.mn y hy).1
  have hmp : ∀ y ∈ p, Nm 145 y ∧ (bareA y).length ≤ 12 := fun y hy => ⟨(rf.mp y hy).1, by obtain ⟨j, _, e⟩ := (rf.mp y hy).2; rw [e]; exact hPc j⟩
  have hbl : (bareA th).length ≤ 12 := by rw [hbt]; exact hPc i
  have rep : ∀ m : Nat, List.replicate m AV.none ++ [AV.none] = List.replicate (m + 1) AV.none := fun m => by rw [List.replicate_succ']
  have repl : ∀ m : Nat, m ≤ 100 → (List.replicate m AV.none).length ≤ 1000000 := fun m h => by rw [List.length_replicate]; omega
  have hcap : ∀ (y : Str) (v : Value), ([("hand", .ref hf)] : List (Str × Value)).lookup y = some v → (y, v) ∈ (rowsX L hf).fz ∧ ([("hand", L + 1)] : List (Str × Addr)).lookup y = (rowsX L hf).env.cells.lookup y := fun y v e => by
    rw [lookup_cons_if'] at e
    by_cases q : y = ("hand" : Str)
    · subst q; rw [if_pos rfl] at e; cases e; exact ⟨.head _, rfl⟩
    · rw [if_neg q] at e; cases e
  have hln : n.length ≤ 100 := by rw [rf.ln]; omega
  have hlp : p.length ≤ 100 := by rw [rf.lp]; omega
  have hll : (l ++ [AV.qn 145 b (suf T i)])[i]? = some (.qn 145 b (suf T i)) := by rw [List.getElem?_append_right (by rw [rf.ll]; omega), rf.ll]; simp
  -- the thing, into the names
  refine S_cons (S_append (a := aT) (xs0 := List.replicate (4 * i) .none) rfl (.head _) (E_lend g (a := aN) (xs := n) (R := .none) (PE_glob gf.g_insort_right rfl) kf.F_insort_right.keep rfl (.tail _ (.tail _ (.tail _ (.head _))))
    (PW.sw (PW.mono (PS.at (PS_cons (PE_name rfl) PS_nil)) fun Z vs r => ⟨[th], _, _, r, .tail (.tail (.tail .head)), w_insR g kf gf q (hr.le (by omega)) hth hmn (by omega), _, _, .head, repl _ (by omega), ?_⟩))))
  have hp1 := fun k => insAt_len p k th
  -- into the pages
  refine S_cons (S_append (a := aT) (xs0 := List.replicate (4 * i) .none ++ [.none]) rfl (.head _) (E_lendK g (a := aP) (xs := p) (R := .none) (σ' := [(aT, List.replicate (4 * i) .none ++ [.none]), (aL, l ++ [.qn 145 b (suf T i)]), (aP, insAt p (posLK hand p (hand (bareA th))) th), (aN, insAt n (posR n th) th)]) (PE_glob gf.g_insort_left rfl) kf.F_insort_left.keep rfl (.tail _ (.tail _ (.head _)))
    (PW.sw (PS.at (PS_cons (PE_name rfl) PS_nil))) (E_lambda gl (caps := [("hand", .ref hf)]) (.head _) rfl hcode rfl ?_ rfl ⟨rfl, rfl⟩) (.tail (.tail .head)) (w_insLK g kf gf q (lam_key g kf gf q hd (by decide) rfl rfl rfl rfl rfl rfl) (hr.le (by omega)) hth hbl hmp (by omega)) ⟨_, _, .head, by rw [rep]; exact repl _ (by omega), ?_⟩))
  · exact hcap
  have hb1 : bareA (.qn 145 b (suf T i)) = suf T i := rfl
  have e2 : ((i : Int).fmod 2) = ((i % 2 : Nat) : Int) := fmod_nat i 2
  have hmn1 : ∀ y ∈ insAt n (posR n th) th, Nm 145 y := fun y hy => by
    rcases insAt_mem hy with rfl | hy
    · exact hth
    · exact hmn y hy
  have hmp1 : ∀ k, ∀ y ∈ insAt p k th, Nm 145 y ∧ (bareA y).length ≤ 12 := fun k y hy => by
    rcases insAt_mem hy with rfl | hy
    · exact ⟨hth, hbl⟩
    · exact hmp y hy
  have hn1 : (insAt n (posR n th) th).length ≤ 1000 := by rw [insAt_len]; omega
  have hp2 : ∀ k, (insAt p k th).length ≤ 1000 := fun k => by rw [insAt_len]; omega
  rw [hbt]
  have fin := Rows.step hrow hth hbt ⟨b, rfl⟩
  have re : List.replicate (4 * i) AV.none ++ [.none] ++ [.none] ++ [.none] ++ [.none] = List.replicate (4 * (i + 1)) .none := by rw [rep, rep, rep, rep]; rfl
  refine S_cons (S_if (b := decide (i % 2 = 0)) (TJ_pt ?_) (fun h => ?_) fun h => ?_)
  · have : decide (i % 2 = 0) = decide (((i % 2 : Nat) : Int) = 0) := by by_cases q : i % 2 = 0 <;> simp [q] <;> omega
    rw [this]
    exact PT_cmp (PE.ci (PE_mod (PE_name rfl) PE_int (by decide)) e2) PE_int cmp_eq
  · have h0 : i % 2 = 0 := of_decide_eq_true h
    rw [if_pos h0, if_pos h0] at fin
    refine S_cons (S_append (a := aT) (xs0 := List.replicate (4 * i) .none ++ [.none] ++ [.none]) rfl (.head _) (E_lend g (a := aN) (xs := insAt n (posR n th) th) (R := .none) (PE_glob gf.g_insort_left rfl) kf.F_insort_left.keep rfl (.tail _ (.tail _ (.tail _ (.head _))))
      (SWj.mono (SW_view (ρ' := [("lasts", .list (l ++ [.qn 145 b (suf T i)])), ("place", .int i)]) (.own rfl (.tail _ (.head _)) (.same rfl .nil)) (PS_cons (PE_itemL (x := .qn 145 b (suf T i)) (PE_name rfl) (PE_name rfl) (by omega) (by omega) (by rw [Int.toNat_natCast]; exact hll)) PS_nil) (by intro x hx; rw [List.mem_singleton.mp hx]; rfl))
        fun Z vs r => ⟨[.qn 145 b (suf T i)], _, _, r, .tail (.tail (.tail .head)), w_insL g kf gf q (hr.le (by omega)) .qn hmn1 hn1, _, _, .head, by rw [rep, rep]; exact repl _ (by omega), ?_⟩)))
    refine S_cons (S_append (a := aT) (xs0 := List.replicate (4 * i) .none ++ [.none] ++ [.none] ++ [.none]) rfl (.head _) (E_lendK g (a := aP) (xs := insAt p (posLK hand p (hand (suf T i))) th) (rest := [.qn 145 b (suf T i)]) (R := .none) (PE_glob gf.g_insort_right rfl) kf.F_insort_right.keep rfl (.tail _ (.tail _ (.head _)))
      (SW_view (ρ' := [("lasts", .list (l ++ [.qn 145 b (suf T i)])), ("place", .int i)]) (.own rfl (.tail _ (.head _)) (.same rfl .nil)) (PS_cons (PE_itemL (x := .qn 145 b (suf T i)) (PE_name rfl) (PE_name rfl) (by omega) (by omega) (by rw [Int.toNat_natCast]; exact hll)) PS_nil) (by intro x hx; rw [List.mem_singleton.mp hx]; rfl))
      (E_lambda gl (caps := [("hand", .ref hf)]) (.head _) rfl hcode rfl hcap rfl ⟨rfl, rfl⟩) (.tail (.tail .head)) (w_insRK g kf gf q (lam_key g kf gf q hd (by decide) rfl rfl rfl rfl rfl rfl) (hr.le (by omega)) .qn (hPc i) (hmp1 _) (hp2 _)) ⟨_, _, .head, by rw [rep, rep, rep]; exact repl _ (by omega), ?_⟩))
    refine S_nil (S_nil (hP _ _ _ _ _ (.cons rfl (.cons rfl (.cons rfl (.cons rfl (.cons rfl (.cons rfl (.cons rfl .nil))))))) fin ?_))
    rw [rowsS, ← re]; rfl
  · have h0 : ¬ i % 2 = 0 := of_decide_eq_false h
    rw [if_neg h0, if_neg h0] at fin
    refine S_cons (S_append (a := aT) (xs0 := List.replicate (4 * i) .none ++ [.none] ++ [.none]) rfl (.head _) (E_lend g (a := aN) (xs := insAt n (posR n th) th) (R := .none) (PE_glob gf.g_insort_right rfl) kf.F_insort_right.keep rfl (.tail _ (.tail _ (.tail _ (.head _))))
      (SWj.mono (SW_view (ρ' := [("lasts", .list (l ++ [.qn 145 b (suf T i)])), ("place", .int i)]) (.own rfl (.tail _ (.head _)) (.same rfl .nil)) (PS_cons (PE_itemL (x := .qn 145 b (suf T i)) (PE_name rfl) (PE_name rfl) (by omega) (by omega) (by rw [Int.toNat_natCast]; exact hll)) PS_nil) (by intro x hx; rw [List.mem_singleton.mp hx]; rfl))
        fun Z vs r => ⟨[.qn 145 b (suf T i)], _, _, r, .tail (.tail (.tail .head)), w_insR g kf gf q (hr.le (by omega)) .qn hmn1 hn1, _, _, .head, by rw [rep, rep]; exact repl _ (by omega), ?_⟩)))
    refine S_cons (S_append (a := aT) (xs0 := List.replicate (4 * i) .none ++ [.none] ++ [.none] ++ [.none]) rfl (.head _) (E_lendK g (a := aP) (xs := insAt p (posLK hand p (hand (suf T i))) th) (rest := [.qn 145 b (suf T i)]) (R := .none) (PE_glob gf.g_insort_left rfl) kf.F_insort_left.keep rfl (.tail _ (.tail _ (.head _)))
      (SW_view (ρ' := [("lasts", .list (l ++ [.qn 145 b (suf T i)])), ("place", .int i)]) (.own rfl (.tail _ (.head _)) (.same rfl .nil)) (PS_cons (PE_itemL (x := .qn 145 b (suf T i)) (PE_name rfl) (PE_name rfl) (by omega) (by omega) (by rw [Int.toNat_natCast]; exact hll)) PS_nil) (by intro x hx; rw [List.mem_singleton.mp hx]; rfl))
      (E_lambda gl (caps := [("hand", .ref hf)]) (.head _) rfl hcode rfl hcap rfl ⟨rfl, rfl⟩) (.tail (.tail .head)) (w_insLK g kf gf q (lam_key g kf gf q hd (by decide) rfl rfl rfl rfl rfl rfl) (hr.le (by omega)) .qn (hPc i) (hmp1 _) (hp2 _)) ⟨_, _, .head, by rw [rep, rep, rep]; exact repl _ (by omega), ?_⟩))
    refine S_nil (S_nil (hP _ _ _ _ _ (.cons rfl (.cons rfl (.cons rfl (.cons rfl (.cons rfl (.cons rfl (.cons rfl .nil))))))) fin ?_))
    rw [rowsS, ← re]; rfl
end
end PL

namespace PL
section
variable {G : Gl} {K : Frag} {A : Around} (g : GlOk G K) (kf : KFacts K) (gf : GFacts G) (q : QnF K) (gl : GlLam G) (hcode : ∀ h, PIn G.Z0 h → CodeHd h 225 221)
include g kf gf q gl hcode

theorem w_rows_body {L hf : Addr} {hand : Str → Str} (hr : Room 4 A) (hd : HandOk G K hf hand fun t => t.length ≤ 12) {T : Str} (hT : T.length ≤ 12) {D : Int} :
    SJ G A (rowsX L hf) [("text", .str T), ("hand", .val (.ref hf)), ("dress", .int D)] [] (execs (fB 24) (rowsX L hf).env)
      (retS fun σ' x => σ' = [] ∧ ∃ n p l, Rows hand (suf T) D T.length n p l ∧ x = .tup [.list n, .list p, .list l, .list (List.replicate (4 * T.length) .none)]) := by
  have hh := hr.handled
  have bT : T.length ≤ 1000000 := by omega
  refine S_cons (S_newlist (.loc rfl) PS_nil (by decide) fun aN => ?_)
  refine S_cons (S_newlist (.loc rfl) PS_nil (by decide) fun aP => ?_)
  refine S_cons (S_newlist (.loc rfl) PS_nil (by decide) fun aL => ?_)
  refine S_cons (S_newlist (.loc rfl) PS_nil (by decide) fun aT => ?_)
  refine S_cons (S_forN (x := "place") (fun i ρ σ => ρ = rowsV T hf D aN aP aL aT ∧ ∃ n p l, Rows hand (suf T) D i n p l ∧ σ = rowsS aN aP aL aT i n p l)
    (PW_callT (PE_glob gf.g_range rfl) (PS_cons (PW_callB (PE_glob gf.g_len rfl) (PS_cons (PE_name rfl) PS_nil) (c_lenS bT)) PS_nil) c_range1)
    (iter_up hh bT) (.loc rfl) ⟨_, ⟨rfl, [], [], [], .nil, rfl⟩, .cons rfl (.cons rfl (.cons rfl (.cons rfl (.cons rfl (.cons rfl (.cons rfl .nil))))))⟩ ?_ ?_)
  · rintro i it ρ1 σ1 hget ⟨rfl, n, p, l, hrow, rfl⟩
    obtain ⟨hi, rfl⟩ := range_up hget
    have hpow : ((2 : Int) ^ i) = ((2 ^ i : Nat) : Int) := by norm_cast
    have hpow2 : 2 ^ i < 2 ^ 12 := Nat.pow_lt_pow_right (by decide) (by omega)
    have tail : ∀ th, Nm 145 th → bareA th = suf T i → SJ G A (rowsX L hf) (("thing", th) :: ("place", .int i) :: rowsV T hf D aN aP aL aT) (rowsS aN aP aL aT i n p l) (execs ((forB ((fB 24)[4]?)).drop 2) (rowsX L hf).env) _ := fun th h1 h2 =>
      w_rows_tail g kf gf q gl hcode hr hd hT hi hrow h1 h2 (P := turnP (fun i ρ σ => ρ = rowsV T hf D aN aP aL aT ∧ ∃ n p l, Rows hand (suf T) D i n p l ∧ σ = rowsS aN aP aL aT i n p l) (thenP G A (rowsX L hf) [(fB 24)[5]] (retS fun σ' x => σ' = [] ∧ ∃ n p l, Rows hand (suf T) D T.length n p l ∧ x = .tup [.list n, .list p, .list l, .list (List.replicate (4 * T.length) .none)])) (i + 1))
        fun ρ2 σ2 n' p' l' hs r' e => ⟨_, ⟨rfl, n', p', l', r', e⟩, hs⟩
    refine S_cons (S_assign (.loc rfl) (EJ_pure (PE_sliceS (PE_name rfl) (PPart_some (PE_name rfl) rfl) PPart_none bT) ?_))
    refine S_cons (S_if (b := decide ((D.fdiv (2 ^ i)).fmod 2 = 1)) (TJ_pt (PT_cmp (PE_mod (PE_fdiv (PE_name rfl) (PE.ci (PE_pow PE_int (PE_name rfl) (by omega) (by omega) (by decide)) (by rw [Int.toNat_natCast])) (by rw [hpow]; exact Int.natCast_ne_zero.mpr (Nat.ne_of_gt (Nat.two_pow_pos i))) (by rw [hpow, Int.natAbs_natCast]; exact Nat.lt_trans hpow2 (by decide))) PE_int (by decide)) PE_int cmp_eq)) (fun h => ?_) fun h => ?_)
    · refine S_cons (S_assign (.loc rfl) (EJ_pureR (PW_callK g (PE_glob gf.g_QName rfl) q.keep (PS_cons (PE_name rfl) PS_nil) (w_make g kf gf q (hr.le (by omega)))) fun Z v hv => ?_))
      obtain ⟨b, hv⟩ := hv
      exact ⟨_, hv, S_nil (SJ.less (tail (.qn 145 b (suf T i)) .qn rfl) (Sub.cons rfl (.cons rfl (.cons rfl (.cons rfl (.cons rfl (.cons rfl (.cons rfl (.cons rfl (.cons rfl .nil))))))))))⟩
    · exact S_nil (SJ.less (tail (.str (suf T i)) .str rfl) (Sub.cons rfl (.cons rfl (.cons rfl (.cons rfl (.cons rfl (.cons rfl (.cons rfl (.cons rfl (.cons rfl .nil))))))))))
  · rintro ρ1 σ1 ⟨rfl, n, p, l, hrow, rfl⟩ ρ2 hsub
    rw [len_up] at hrow ⊢
    refine SJ.less (ρ' := rowsV T hf D aN aP aL aT) ?_ hsub
    refine S_cons (S_freeze (l := "told") rfl (S_freeze (l := "lasts") rfl (S_freeze (l := "pages") rfl (S_freeze (l := "names") rfl (S_ret (EJ_pure (PE_tup (PS_cons (PE_name rfl) (PS_cons (PE_name rfl) (PS_cons (PE_name rfl) (PS_cons (PE_name rfl) PS_nil)))) (Nat.le_of_ble_eq_true rfl)) ?_))))))
    exact ⟨rfl, n, p, l, hrow, rfl⟩
end
end PL

namespace PL
theorem sOf_append (l : List Nat) (c : Nat) : sOf l ++ (⟨#[c]⟩ : Str) = sOf (l ++ [c]) := by
  apply congrArg Str.mk
  apply Array.toList_inj.mp
  simp [sOf]
theorem sOf_eta (t : Str) : sOf t.cps.toList = t := by cases t; simp [sOf]
theorem fmod_range {a b : Int} (h : 0 < b) : 0 ≤ a.fmod b ∧ a.fmod b < b := by
  rw [Int.fmod_eq_emod_of_nonneg a (by omega)]
  exact ⟨Int.emod_nonneg a (by omega), Int.emod_lt_of_pos a h⟩
theorem pow_small {b : Int} {k : Nat} (h1 : 2 ≤ b) (h2 : b ≤ 3) (h3 : k ≤ 4) : b ^ k ≠ 0 ∧ (b ^ k).natAbs < 1073741824 := by
  have hb : b = 2 ∨ b = 3 := by omega
  have hk : k = 0 ∨ k = 1 ∨ k = 2 ∨ k = 3 ∨ k = 4 := by omega
  rcases hb with rfl | rfl <;> rcases hk with rfl | rfl | rfl | rfl | rfl <;> decide

/-- a text of these letters -/
structure TextOf (L : List Nat) (T : Str) (ds : List Nat) : Prop where
  eq : T = sOf (ds.map (L.getD · 0))
  dom : ∀ d ∈ ds, d < L.length

section
variable {G : Gl} {K : Frag} {A : Around} (g : GlOk G K) (kf : KFacts K) (gf : GFacts G) (q : QnF K)
include g kf gf

theorem w_text (hr : Room 1 A) {c0 c1 c2 : Int} {letters : Str} (h2 : 2 ≤ letters.length) (h3 : letters.length ≤ 3) :
    COk G A (.ref 212) [aInts [c0, c1, c2], .str letters] fun Z v => ∃ x, VR Z x v ∧ ∃ T ds, x = .str T ∧ TextOf letters.cps.toList T ds ∧ 5 ≤ ds.length ∧ ds.length ≤ 10 :=
  fn_ok g kf.F_law_text ["cells", "letters"] (n := 0) (fun S vs h => match vs, h with | [v, u], _ => kf.B_law_text S v u) hr [] rfl fun L => by
    have hh : (A.deeper (envOfC "_law_text" (fS 22) L 212 (.ref 211))).handled = none := hr.handled
    have r5 := fmod_range (a := c0.fdiv 5) (b := 5) (by decide)
    have r6 := fmod_range (a := c0.fdiv 25) (b := 6) (by decide)
    have r16 := fmod_range (a := c2) (b := 16) (by decide)
    have hLl : letters.cps.toList.length = letters.length := by simp [Str.length]
    refine S_cons (S_assign (.loc rfl) (EJ_pure (PE_add PE_int (PE_mod (PE_fdiv (PE_itemL (PE_name rfl) PE_int (by decide) (by decide) rfl) PE_int (by decide) (by decide)) PE_int (by decide))) ?_))
    refine S_cons (S_assign (.loc rfl) (EJ_pure PE_str ?_))
    refine S_cons (S_forN (x := "place") (fun i ρ σ => σ = [] ∧ ∃ ds T, TextOf letters.cps.toList T ds ∧ ds.length = i ∧ ρ = ([("cells", aInts [c0, c1, c2]), ("letters", .str letters), ("size", .int (1 + (c0.fdiv 5).fmod 5)), ("text", .str T)] : Vars))
      (PW_callT (PE_glob gf.g_range rfl) (PS_cons (PE_add PE_int (PE_mod (PE_fdiv (PE_itemL (PE_name rfl) PE_int (by decide) (by decide) rfl) PE_int (by decide) (by decide)) PE_int (by decide))) PS_nil) c_range1)
      (iter_ab hh (by omega) (by omega) (by omega) (by omega)) (.loc rfl) ⟨_, ⟨rfl, [], ⟨#[]⟩, ⟨rfl, by simp⟩, rfl, rfl⟩, .cons rfl (.cons rfl (.cons rfl (.cons rfl .nil)))⟩ ?_ ?_)
    · rintro i it ρ1 σ1 hget ⟨rfl, ds, T, hT, hlen, rfl⟩
      obtain ⟨hi, rfl⟩ := range_ab hget
      have hi10 : i < 10 := by omega
      have rs := fmod_range (a := 0 + (i : Int)) (b := 1 + (c0.fdiv 5).fmod 5) (by omega)
      have hp := pow_small (b := letters.length) (k := ((0 + (i : Int)).fmod (1 + (c0.fdiv 5).fmod 5)).toNat) (by omega) (by omega) (by omega)
      refine S_cons (S_assign (.loc rfl) (EJ_pure (PE_fdiv (PE_itemL (PE_name rfl) PE_int (by decide) (by decide) rfl) (PE_pow (PW_callB (PE_glob gf.g_len rfl) (PS_cons (PE_name rfl) PS_nil) (c_lenS (by omega))) (PE_mod (PE_name rfl) (PE_name rfl) (by omega)) rs.1 (by omega) (by omega)) hp.1 hp.2) ?_))
      have tail : ∀ num : Int, SJ G (A.deeper (envOfC "_law_text" (fS 22) L 212 (.ref 211))) (frX "_law_text" (fS 22) L 212 (.ref 211) [] []) (("number", .int num) :: ("place", .int (0 + (i : Int))) :: [("cells", aInts [c0, c1, c2]), ("letters", .str letters), ("size", .int (1 + (c0.fdiv 5).fmod 5)), ("text", .str T)]) []
          (execs ((forB ((fB 22)[2]?)).drop 2) (frX "_law_text" (fS 22) L 212 (.ref 211) [] []).env) (turnP (fun i ρ σ => σ = [] ∧ ∃ ds T, TextOf letters.cps.toList T ds ∧ ds.length = i ∧ ρ = ([("cells", aInts [c0, c1, c2]), ("letters", .str letters), ("size", .int (1 + (c0.fdiv 5).fmod 5)), ("text", .str T)] : Vars)) (thenP G (A.deeper (envOfC "_law_text" (fS 22) L 212 (.ref 211))) (frX "_law_text" (fS 22) L 212 (.ref 211) [] []) [(fB 22)[3]] (retP fun x => ∃ T ds, x = .str T ∧ TextOf letters.cps.toList T ds ∧ 5 ≤ ds.length ∧ ds.length ≤ 10)) (i + 1)) := fun num => by
        have rl := fmod_range (a := num) (b := letters.length) (by omega)
        have hlt : (num.fmod letters.length).toNat < letters.cps.size := by show _ < letters.length; omega
        have eT : T.length = i := by rw [hT.eq, sOf_len, List.length_map, hlen]
        refine S_cons (S_assign (.loc rfl) (EJ_pure (PE_adds (PE_name rfl) (PE_itemS (c := letters.cps[(num.fmod letters.length).toNat]) (PE_name rfl) (PE_mod (PE_name rfl) (PW_callB (PE_glob gf.g_len rfl) (PS_cons (PE_name rfl) PS_nil) (c_lenS (by omega))) (by omega)) rl.1 (by omega) (by simp [hlt])) (by rw [eT]; show i + 1 ≤ _; omega)) ?_))
        refine S_nil ⟨_, ⟨rfl, ds ++ [(num.fmod letters.length).toNat], _, ⟨?_, ?_⟩, by rw [List.length_append, hlen]; rfl, rfl⟩, .cons rfl (.cons rfl (.cons rfl (.cons rfl .nil)))⟩
        · rw [hT.eq, sOf_append, List.map_append]
          congr 2
          simp [List.getD, hlt]
        · intro d hd
          rcases List.mem_append.mp hd with hd | hd
          · exact hT.dom d hd
          · rw [List.mem_singleton.mp hd, hLl]; omega
      refine S_cons (S_if (b := decide (0 + (i : Int) = c2.fmod 16)) (TJ_pt (PT_cmp (PE_name rfl) (PE_mod (PE_itemL (PE_name rfl) PE_int (by decide) (by decide) rfl) PE_int (by decide)) cmp_eq)) (fun h => ?_) fun h => ?_)
      · refine S_cons (S_assign (.loc rfl) (EJ_pure (PE_add (PE_add (PE_name rfl) PE_int) (PE_mod (PE_fdiv (PE_itemL (PE_name rfl) PE_int (by decide) (by decide) rfl) PE_int (by decide) (by decide)) (PE_sub (PW_callB (PE_glob gf.g_len rfl) (PS_cons (PE_name rfl) PS_nil) (c_lenS (by omega))) PE_int) (by omega))) ?_))
        exact S_nil (SJ.less (tail _) (Sub.cons rfl (.cons rfl (.cons rfl (.cons rfl (.cons rfl (.cons rfl .nil)))))))
      · exact S_nil (SJ.less (tail _) (Sub.cons rfl (.cons rfl (.cons rfl (.cons rfl (.cons rfl (.cons rfl .nil)))))))
    · rintro ρ1 σ1 ⟨rfl, ds, T, hT, hlen, rfl⟩ ρ2 hsub
      rw [len_ab] at hlen
      exact SJ.less (S_cons (S_ret (EJ_pure (PE_name rfl) ⟨T, ds, rfl, hT, by omega, by omega⟩))) hsub
end
end PL

namespace PL
/-- alike around the cut, as far as there is text -/
def alike (ns : List Int) (F C g : Nat) : Bool := (List.range (min C (ns.length - g) - max F (C - g))).all fun k => decide (ns.getD (max F (C - g) + k + g) 0 - ns.getD (max F (C - g) + k) 0 = 0)
theorem aInts_get {ns : List Int} {k : Nat} (h : k < ns.length) : (ns.map AV.int)[k]? = some (.int (ns.getD k 0)) := int_map_get h

section
variable {G : Gl} {K : Frag} {A : Around} (g : GlOk G K) (kf : KFacts K) (gf : GFacts G) (q : QnF K)
include g kf gf

theorem w_alike (hr : Room 2 A) {ns : List Int} {F C gap : Nat} (hn : ns.length ≤ 1000) (hF : F ≤ 1000) (hC : C ≤ 1000) (hg : gap ≤ 1000) :
    COk G A (.ref 240) [aInts ns, .int F, .int C, .int gap] fun Z v => VR Z (.bool (alike ns F C gap)) v :=
  COk.eq (fn_ok g kf.F_law_alike ["numbers", "first", "cut", "gap"] (n := 1) (fun S vs h => match vs, h with | [v1, v2, v3, v4], _ => kf.B_law_alike S v1 v2 v3 v4) hr [] rfl fun L => by
    have hr' : Room 1 (A.deeper (envOfC "_law_alike" (fS 26) L 240 (.ref 239))) := hr.deeper
    have hh := hr'.handled
    have e1 : max (F : Int) ((C : Int) - gap) = ((max F (C - gap) : Nat) : Int) := by omega
    have hl : (ns.map AV.int).length = ns.length := List.length_map ..
    refine S_cons (S_forN (x := "place") (fun i ρ σ => σ = [] ∧ ρ = ([("numbers", aInts ns), ("first", .int F), ("cut", .int C), ("gap", .int gap)] : Vars) ∧ (List.range i).all (fun k => decide (ns.getD (max F (C - gap) + k + gap) 0 - ns.getD (max F (C - gap) + k) 0 = 0)) = true)
      (PW_callT (PE_glob gf.g_range rfl) (PS_cons (PW_callB (PE_glob gf.g_max rfl) (PS_cons (PE_name rfl) (PS_cons (PE_sub (PE_name rfl) (PE_name rfl)) PS_nil)) (c_max hh))
        (PS_cons (PW_callB (PE_glob gf.g_min rfl) (PS_cons (PE_name rfl) (PS_cons (PE_sub (PW_callB (PE_glob gf.g_len rfl) (PS_cons (PE_name rfl) PS_nil) (c_lenL (by omega))) (PE_name rfl)) PS_nil)) (c_min hh)) PS_nil)) c_range2)
      (iter_ab hh (by omega) (by omega) (by omega) (by omega)) (.loc rfl) ⟨_, ⟨rfl, rfl, rfl⟩, .cons rfl (.cons rfl (.cons rfl (.cons rfl .nil)))⟩ ?_ ?_)
    · rintro i it ρ1 σ1 hget ⟨rfl, rfl, hall⟩
      obtain ⟨hi, rfl⟩ := range_ab hget
      rw [hl] at hi
      have hi2 : max F (C - gap) + i + gap < ns.length := by omega
      have hi3 : max F (C - gap) + i < ns.length := by omega
      have ep : max (F : Int) ((C : Int) - gap) + (i : Int) = ((max F (C - gap) + i : Nat) : Int) := by omega
      have ep2 : max (F : Int) ((C : Int) - gap) + (i : Int) + gap = ((max F (C - gap) + i + gap : Nat) : Int) := by omega
      refine S_cons (S_if (TJ_pt (PT_cmp (PE_of (PW_callK g (PE_glob gf.g_ISEOF rfl) kf.F_ISEOF.keep (PS_cons (PE_sub (PE_itemL (x := .int (ns.getD (max F (C - gap) + i + gap) 0)) (PE_name rfl) (PE.ci (PE_add (PE_name rfl) (PE_name rfl)) ep2) (by omega) (by omega) (by rw [Int.toNat_natCast]; exact aInts_get hi2))
        (PE_itemL (x := .int (ns.getD (max F (C - gap) + i) 0)) (PE_name rfl) (PE.ci (PE_name rfl) ep) (by omega) (by omega) (by rw [Int.toNat_natCast]; exact aInts_get hi3))) PS_nil) (w_iseof g kf gf hr' _))) PE_true cmp_isntBool)) (fun h => ?_) fun h => ?_)
      · refine S_cons (S_ret (EJ_pure PE_true ?_))
        show AV.bool false = .bool (alike ns F C gap)
        have : alike ns F C gap = false := by
          unfold alike
          rw [List.all_eq_false]
          refine ⟨i, List.mem_range.mpr (by omega), ?_⟩
          simpa using h
        rw [this]
      · refine S_nil (S_nil ⟨_, ⟨rfl, rfl, ?_⟩, .cons rfl (.cons rfl (.cons rfl (.cons rfl .nil)))⟩)
        rw [List.range_succ, List.all_append, hall]
        simpa using h
    · rintro ρ1 σ1 ⟨rfl, rfl, hall⟩ ρ2 hsub
      rw [len_ab, hl] at hall
      refine S_cons (S_ret (EJ_pure PE_true ?_))
      show AV.bool true = .bool (alike ns F C gap)
      have e2 : (min (C : Int) ((ns.length : Int) - gap) - max (F : Int) ((C : Int) - gap)).toNat = min C (ns.length - gap) - max F (C - gap) := by omega
      rw [e2] at hall
      unfold alike
      rw [hall])
end
end PL

namespace PL
theorem alike_far {ns : List Int} {F C g : Nat} (h : ns.length ≤ g) : alike ns F C g = true := by
  unfold alike
  rw [show min C (ns.length - g) - max F (C - g) = 0 by omega]
  rfl
/-- the least size that is seen -/
structure Seen (ns : List Int) (F C g : Nat) : Prop where
  pos : 1 ≤ g
  le : g ≤ ns.length + 1
  ok : alike ns F C g = true
  least : ∀ j, 1 ≤ j → j < g → alike ns F C j = false

/-- a period -/
def perB (T : Str) (g : Nat) : Bool := decide (suf T g = cutS T none (some (T.length - g)))
def periods (T : Str) : List Nat := ((List.range T.length).map (1 + ·)).filter (perB T)

section
variable {G : Gl} {K : Frag} {A : Around} (g : GlOk G K) (kf : KFacts K) (gf : GFacts G) (q : QnF K)
include g kf gf

theorem w_seen (hr : Room 3 A) {ns : List Int} {F C : Nat} (hn : ns.length ≤ 900) (hF : F ≤ 1000) (hC : C ≤ 1000) :
    COk G A (.ref 247) [aInts ns, .int F, .int C] fun Z v => ∃ x, VR Z x v ∧ ∃ gap : Nat, x = .int gap ∧ Seen ns F C gap :=
  fn_ok g kf.F_law_seen ["numbers", "first", "cut"] (n := 2) (fun S vs h => match vs, h with | [v1, v2, v3], _ => kf.B_law_seen S v1 v2 v3) hr [] rfl fun L => by
    have hr' : Room 2 (A.deeper (envOfC "_law_seen" (fS 27) L 247 (.ref 246))) := hr.deeper
    refine S_cons (S_assign (.loc rfl) (EJ_pure PE_int ?_))
    refine S_cons (S_whileN (fun m ρ σ => σ = [] ∧ ∃ gap : Nat, ρ = ([("numbers", aInts ns), ("first", .int F), ("cut", .int C), ("gap", .int gap)] : Vars) ∧ 1 ≤ gap ∧ gap ≤ ns.length + 1 ∧ m = ns.length + 1 - gap ∧ ∀ j, 1 ≤ j → j < gap → alike ns F C j = false) ns.length
      ⟨_, ⟨rfl, 1, rfl, by omega, by omega, by omega, fun j h1 h2 => by omega⟩, .cons rfl (.cons rfl (.cons rfl (.cons rfl .nil)))⟩ ?_)
    rintro m ρ1 σ1 ⟨rfl, gap, rfl, h1, h2, rfl, hj⟩
    refine ⟨!(alike ns F C gap), TJ_pt (PT_not (PT_plain (PW_callK g (PE_glob gf.g_law_alike rfl) kf.F_law_alike.keep (PS_cons (PE_name rfl) (PS_cons (PE_name rfl) (PS_cons (PE_name rfl) (PS_cons (PE_name rfl) PS_nil)))) (w_alike g kf gf hr' (by omega) hF hC (by omega))))), fun h => ?_, fun h ρ2 hs => ?_⟩
    · have hf : alike ns F C gap = false := by simpa using h
      have hlt : gap < ns.length := by
        rcases Nat.lt_or_ge gap ns.length with q | q
        · exact q
        · rw [alike_far q] at hf; cases hf
      refine S_cons (S_assign (.loc rfl) (EJ_pure (PE.ci (PE_add (PE_name rfl) PE_int) (by omega : ((gap : Int) + 1) = ((gap + 1 : Nat) : Int))) (S_nil ⟨ns.length + 1 - (gap + 1), by omega, _, ⟨rfl, gap + 1, rfl, by omega, by omega, rfl, fun j a b => ?_⟩, .cons rfl (.cons rfl (.cons rfl (.cons rfl .nil)))⟩)))
      by_cases q : j = gap
      · rw [q]; exact hf
      · exact hj j a (by omega)
    · exact SJ.less (S_cons (S_ret (EJ_pure (PE_name rfl) ⟨gap, rfl, h1, h2, by simpa using h, hj⟩))) hs

theorem w_periods (hr : Room 1 A) {T : Str} (hT : T.length ≤ 1000) : COk G A (.ref 252) [.str T] fun Z v => VR Z (aInts ((periods T).map fun (k : Nat) => (k : Int))) v :=
  COk.eq (fn_ok g kf.F_law_periods ["text"] (n := 0) (fun S vs h => match vs, h with | [v], _ => kf.B_law_periods S v) hr [] rfl fun L => by
    have hh : (A.deeper (envOfC "_law_periods" (fS 28) L 252 (.ref 251))).handled = none := hr.handled
    have mem : ∀ it, it ∈ (List.range ((T.length : Int) + 1 - 1).toNat).map (fun (k : Nat) => AV.int (1 + k)) → ∃ k : Nat, k < T.length ∧ it = .int ((1 + k : Nat) : Int) := fun it h => by
      obtain ⟨k, hk, rfl⟩ := List.mem_map.mp h
      exact ⟨k, by have := List.mem_range.mp hk; omega, by rw [Int.natCast_add]; rfl⟩
    refine S_cons (S_ret (EJ_pure (PE_comp (caps := [("text", .str T)]) (fun x => match x with | .int v => perB T v.toNat | _ => false) id
      (PW_callT (PE_glob gf.g_range rfl) (PS_cons PE_int (PS_cons (PE_add (PW_callB (PE_glob gf.g_len rfl) (PS_cons (PE_name rfl) PS_nil) (c_lenS (by omega))) PE_int) PS_nil)) c_range2)
      (iter_ab hh (by omega) (by omega) (by omega) (by omega)) (by simp; omega) (fun it h => ?_) (fun it h _ => ?_) rfl (by decide) rfl (by decide) rfl ⟨fun y v e => ?_⟩ (fun C it h => ?_) (fun C it h _ => ?_)) ?_))
    · obtain ⟨k, _, rfl⟩ := mem it h; rfl
    · obtain ⟨k, _, rfl⟩ := mem it h; rfl
    · rw [lookup_cons_if] at e
      by_cases q : y = ("text" : Str)
      · subst q; rw [if_pos rfl] at e; cases e; exact ⟨rfl, .inl rfl, .inl rfl, rfl⟩
      · rw [if_neg q] at e; cases e
    · obtain ⟨k, hk, rfl⟩ := mem it h
      exact PW_tests1 (PT_cmp (PE_sliceS (l := some (1 + k)) (u := none) (PE_name rfl) (PPart_some (PE_name rfl) rfl) PPart_none (by omega))
        (PE_sliceS (l := none) (u := some (T.length - (1 + k))) (PE_name rfl) PPart_none (PPart_some (PE_sub (PW_callB (PE_glob gf.g_len rfl) (PS_cons (PE_name rfl) PS_nil) (c_lenS (by omega))) (PE_name rfl)) (by omega)) (by omega)) cmp_eqs)
    · obtain ⟨k, hk, rfl⟩ := mem it h
      exact PE_name rfl
    · show AV.list _ = aInts _
      unfold aInts periods
      rw [show ((T.length : Int) + 1 - 1).toNat = T.length by omega, List.map_id]
      congr 1
      generalize List.range T.length = r
      induction r with
      | nil => rfl
      | cons k r ih =>
        have e : perB T (1 + (k : Int)).toNat = perB T (1 + k) := by rw [show (1 + (k : Int)).toNat = 1 + k by omega]
        rw [List.map_cons, List.map_cons]
        cases hb : perB T (1 + k) with
        | true =>
          rw [List.filter_cons_of_pos (by show perB T (1 + (k : Int)).toNat = true; rw [e, hb]), List.filter_cons_of_pos hb, ih]; rfl
        | false =>
          rw [List.filter_cons_of_neg (by show ¬ perB T (1 + (k : Int)).toNat = true; rw [e, hb]; decide), List.filter_cons_of_neg (by rw [hb]; decide), ih])
end
end PL

namespace PL
/-- a sign's number -/
def numOf (d : Nat) : Int := 255 - d
def nums (ds : List Nat) : List Int := ds.map numOf
/-- the rule's numbers on the pile, the last one on top -/
def nts (N : Int) : Nat → List Int
  | 0 => []
  | m + 1 => (N + m) :: nts N m
/-- the pile, its top first -/
def stk (N : Int) (cur : List Nat) (m : Nat) (tl : List Nat) : List Int := nums cur ++ nts N m ++ nums tl ++ [0]
def flat (m : Nat) (r : List Nat) : List Nat := (List.replicate m r).flatten
theorem flat_succ (m : Nat) (r : List Nat) : flat (m + 1) r = r ++ flat m r := by simp [flat, List.replicate_succ]
def pick (L : List Nat) (ds : List Nat) : Str := sOf (ds.map (L.getD · 0))
theorem pick_snoc (L : List Nat) (ds : List Nat) (d : Nat) : pick L ds ++ (⟨#[L.getD d 0]⟩ : Str) = pick L (ds ++ [d]) := by
  unfold pick; rw [sOf_append, List.map_append]; rfl
theorem pick_len (L ds : List Nat) : (pick L ds).length = ds.length := by unfold pick; rw [sOf_len, List.length_map]

theorem lay_list {ds : List Nat} {c p : Nat} (hc : c ≤ ds.length) (hp : p < c) : (nums (ds.take c)).reverse.take p ++ [(nums ds).getD (c - 1 - p) 0] = (nums (ds.take c)).reverse.take (p + 1) := by
  have hl : (nums (ds.take c)).length = c := by unfold nums; rw [List.length_map, List.length_take]; omega
  have hlt : p < (nums (ds.take c)).reverse.length := by rw [List.length_reverse, hl]; exact hp
  rw [List.take_succ_eq_append_getElem hlt]
  congr 1
  rw [List.getElem_reverse]
  simp only [hl]
  have h2 : c - 1 - p < ds.length := by omega
  unfold nums
  rw [List.getElem_map, List.getElem_take]
  simp [List.getD, h2]
section
variable {G : Gl} {K : Frag} {A : Around} (g : GlOk G K) (kf : KFacts K) (gf : GFacts G) (q : QnF K) {X : Fx} {Post : Out → Prop}
include g kf gf


abbrev wX (L : Addr) : Fx := frX "_law_written" (fS 29) L 259 (.ref 258) [] []
abbrev wA (A : Around) (L : Addr) : Around := A.deeper (envOfC "_law_written" (fS 29) L 259 (.ref 258))
abbrev wV (ds : List Nat) (s : Nat) (letters : Str) (a : Addr) (T : Str) (hd : Int) : Vars := [("numbers", aInts (nums ds)), ("size", .int s), ("letters", .str letters), ("pile", .ref a), ("text", .str T), ("symbol", .int hd)]
abbrev whB : Option Stmt → List Stmt
  | some (.While _ b _ _) => b
  | _ => []

theorem w_nonter {L : Addr} (hr : Room 2 A) {ρ : Vars} {hd : Int} (h : ρ.lookup ("symbol" : Str) = some (.int hd)) {p1 p2 p3 p4 p5 p6 p7 p8 p9 p10 p11 : Pos} {k1 k2 : Nat} :
    PT G (wA A L) (wX L).env ρ (.BoolOp .And [.Compare (.Call (.Name "ISNONTERMINAL" p1) [.Name "symbol" p2] [] p3) [.Is] [.Constant (.bool true) k1 p4] p5, .Compare (.Call (.Name "ISTERMINAL" p6) [.Name "symbol" p7] [] p8) [.Is] [.Constant (.bool false) k2 p9] p10] p11)
      ((decide (256 ≤ hd) == true) && ((decide (hd < 256) == false) && true)) :=
  PT_and (PT_cmp (PE_of (PW_callK g (PE_glob gf.g_ISNONTERMINAL rfl) kf.F_ISNONTERMINAL.keep (PS_cons (PE_name h) PS_nil) (w_isnon g kf gf hr.deeper _))) PE_true cmp_isBool) fun _ =>
    PT_and (PT_cmp (PE_of (PW_callK g (PE_glob gf.g_ISTERMINAL rfl) kf.F_ISTERMINAL.keep (PS_cons (PE_name h) PS_nil) (w_isterm g kf gf hr.deeper _))) PE_true cmp_isBool) fun _ => PT_andN
theorem w_ter {L : Addr} (hr : Room 2 A) {ρ : Vars} {hd : Int} (h : ρ.lookup ("symbol" : Str) = some (.int hd)) {p1 p2 p3 p4 p5 p6 p7 p8 p9 p10 p11 : Pos} {k1 k2 : Nat} :
    PT G (wA A L) (wX L).env ρ (.BoolOp .And [.Compare (.Call (.Name "ISTERMINAL" p1) [.Name "symbol" p2] [] p3) [.Is] [.Constant (.bool true) k1 p4] p5, .Compare (.Call (.Name "ISNONTERMINAL" p6) [.Name "symbol" p7] [] p8) [.Is] [.Constant (.bool false) k2 p9] p10] p11)
      ((decide (hd < 256) == true) && ((decide (256 ≤ hd) == false) && true)) :=
  PT_and (PT_cmp (PE_of (PW_callK g (PE_glob gf.g_ISTERMINAL rfl) kf.F_ISTERMINAL.keep (PS_cons (PE_name h) PS_nil) (w_isterm g kf gf hr.deeper _))) PE_true cmp_isBool) fun _ =>
    PT_and (PT_cmp (PE_of (PW_callK g (PE_glob gf.g_ISNONTERMINAL rfl) kf.F_ISNONTERMINAL.keep (PS_cons (PE_name h) PS_nil) (w_isnon g kf gf hr.deeper _))) PE_true cmp_isBool) fun _ => PT_andN

/-- a terminal worked off -/
theorem w_term {L : Addr} (hr : Room 2 A) {ds : List Nat} {s : Nat} {letters : Str} {a : Addr} {done : List Nat} {d : Nat} (hd : d < letters.length) (h3 : letters.length ≤ 3) (hl : done.length ≤ 1000) {hd' : Int} {tt' : List Int} (ht : tt'.length ≤ 1000) {P : Out → Prop}
    (hP : ∀ ρ2, Sub (wV ds s letters a (pick letters.cps.toList (done ++ [d])) hd') ρ2 → P (.next ρ2 [(a, tt'.reverse.map .int)])) :
    SJ G (wA A L) (wX L) (wV ds s letters a (pick letters.cps.toList done) (numOf d)) [(a, (hd' :: tt').reverse.map .int)] (execs (whB ((fB 29)[5]?)) (wX L).env) P := by
  have e : (hd' :: tt').reverse.map AV.int = tt'.reverse.map AV.int ++ [.int hd'] := by simp
  rw [e]
  have hn : numOf d < 256 ∧ 0 < numOf d := by unfold numOf; omega
  have b1 : decide (256 ≤ numOf d) = false := decide_eq_false (by omega)
  have b2 : decide (numOf d < 256) = true := decide_eq_true hn.1
  have hlt : d < letters.cps.size := hd
  refine S_cons (S_if (TJ_pt (w_nonter g kf gf hr rfl)) (fun h => by rw [b1] at h; cases h) fun _ => ?_)
  refine S_cons (S_if (TJ_pt (w_ter g kf gf hr rfl)) (fun _ => ?_) fun h => by rw [b1, b2] at h; cases h)
  refine S_cons (S_assign (.loc rfl) (EJ_pure (PE_adds (PE_name rfl) (PE_itemS (c := letters.cps.toList.getD d 0) (PE_name rfl) (PE.ci (PE_sub PE_int (PE_name rfl)) (by unfold numOf; omega : 255 - numOf d = (d : Int))) (by omega) (by omega) (by rw [Int.toNat_natCast]; simp [List.getD, hlt])) (by rw [pick_len]; show done.length + 1 ≤ _; omega)) ?_))
  rw [pick_snoc]
  refine S_nil (S_nil (S_cons (S_assign (.loc rfl) (E_pop rfl .head (by rw [List.length_map, List.length_reverse]; omega) (S_nil (hP _ ?_))))))
  exact .cons rfl (.cons rfl (.cons rfl (.cons rfl (.cons rfl (.cons rfl .nil)))))

/-- the rule's number worked off -/
theorem w_nont {L : Addr} (hr : Room 2 A) {ds : List Nat} {s : Nat} {letters : Str} {a : Addr} {T : Str} (hs : s ≤ ds.length) (hn : ds.length ≤ 100) {hd hd' : Int} (hh : 256 ≤ hd) {tt tt' : List Int} (ht : tt.length ≤ 1000) (e : nums (ds.take s) ++ tt = hd' :: tt') {P : Out → Prop}
    (hP : ∀ ρ2, Sub (wV ds s letters a T hd') ρ2 → P (.next ρ2 [(a, tt'.reverse.map .int)])) :
    SJ G (wA A L) (wX L) (wV ds s letters a T hd) [(a, tt.reverse.map .int)] (execs (whB ((fB 29)[5]?)) (wX L).env) P := by
  have b1 : decide (256 ≤ hd) = true := decide_eq_true hh
  have b2 : decide (hd < 256) = false := decide_eq_false (by omega)
  have hhd : (wA A L).handled = none := hr.handled
  have hlen : (nums ds).length = ds.length := List.length_map ..
  have hlt : (nums (ds.take s)).length = s := by unfold nums; rw [List.length_map, List.length_take]; omega
  refine S_cons (S_if (TJ_pt (w_nonter g kf gf hr rfl)) (fun _ => ?_) fun h => by rw [b1, b2] at h; cases h)
  refine S_cons (S_forN (x := "place") (fun p ρ σ => ρ = wV ds s letters a T hd ∧ σ = [(a, tt.reverse.map .int ++ ((nums (ds.take s)).reverse.take p).map .int)])
    (PW_callT (PE_glob gf.g_range rfl) (PS_cons (PE_name rfl) PS_nil) c_range1) (iter_up hhd (by omega)) (.loc rfl) ⟨_, ⟨rfl, by simp⟩, .cons rfl (.cons rfl (.cons rfl (.cons rfl (.cons rfl (.cons rfl .nil)))))⟩ ?_ ?_)
  · rintro p it ρ1 σ1 hget ⟨rfl, rfl⟩
    obtain ⟨hp, rfl⟩ := range_up hget
    have hi : s - 1 - p < (nums ds).length := by rw [hlen]; omega
    refine S_cons (S_append (a := a) (xs0 := tt.reverse.map .int ++ ((nums (ds.take s)).reverse.take p).map .int) rfl (.head _) (EJ_pure (PE_itemL (x := .int ((nums ds).getD (s - 1 - p) 0)) (PE_name rfl) (PE.ci (PE_sub (PE_sub (PE_name rfl) PE_int) (PE_name rfl)) (by omega : (s : Int) - 1 - p = ((s - 1 - p : Nat) : Int))) (by omega) (by omega) (by rw [Int.toNat_natCast]; exact aInts_get hi))
      ⟨_, _, .head, by rw [List.length_append, List.length_map, List.length_map, List.length_reverse, List.length_take, List.length_reverse, hlt]; omega, S_nil ⟨_, ⟨rfl, ?_⟩, .cons rfl (.cons rfl (.cons rfl (.cons rfl (.cons rfl (.cons rfl .nil)))))⟩⟩))
    rw [← lay_list hs hp, List.map_append, List.append_assoc]
    rfl
  · rintro ρ1 σ1 ⟨rfl, rfl⟩ ρ2 hsub
    rw [len_up]
    have e2 : tt.reverse.map AV.int ++ ((nums (ds.take s)).reverse.take s).map AV.int = tt'.reverse.map AV.int ++ [.int hd'] := by
      rw [List.take_of_length_le (by rw [List.length_reverse, hlt]; exact Nat.le_refl _), ← List.map_append, ← List.reverse_append, e]
      simp
    rw [e2]
    have hl2 : tt'.length + 1 = s + tt.length := by
      have := congrArg List.length e
      rw [List.length_append, hlt] at this
      simpa using this.symm
    refine S_nil (SJ.less (S_cons (S_assign (.loc rfl) (E_pop rfl .head (by rw [List.length_map, List.length_reverse]; omega) (S_nil (hP _ ?_))))) hsub)
    exact .cons rfl (.cons rfl (.cons rfl (.cons rfl (.cons rfl (.cons rfl .nil)))))
end
end PL

namespace PL
def written (ds : List Nat) (s : Nat) : List Nat := flat (ds.length / s) (ds.take s) ++ ds.take (ds.length % s)
theorem flat_len (m : Nat) (r : List Nat) : (flat m r).length = m * r.length := by simp [flat]
theorem written_len {ds : List Nat} {s : Nat} (h1 : 1 ≤ s) (h2 : s ≤ ds.length) : (written ds s).length = ds.length := by
  unfold written
  rw [List.length_append, flat_len, List.length_take, List.length_take, Nat.min_eq_left h2, Nat.min_eq_left (Nat.le_of_lt (Nat.lt_of_lt_of_le (Nat.mod_lt _ (by omega)) h2))]
  rw [Nat.mul_comm]; exact Nat.div_add_mod _ _
theorem nums_len (ds : List Nat) : (nums ds).length = ds.length := List.length_map ..
theorem nts_len (N : Int) : ∀ m, (nts N m).length = m
  | 0 => rfl
  | m + 1 => by rw [nts, List.length_cons, nts_len N m]

/-- the state of the working off -/
structure WS (ds : List Nat) (s : Nat) (Ln : Nat) (N : Int) (W : List Nat) (k : Nat) (done cur : List Nat) (m : Nat) (tl : List Nat) (hd : Int) (tt : List Int) : Prop where
  w : done ++ cur ++ flat m (ds.take s) ++ tl = W
  st : stk N cur m tl = hd :: tt
  dc : ∀ d ∈ cur, d < Ln
  dt : ∀ d ∈ tl, d < Ln
  k : k = cur.length + m * (s + 1) + tl.length

section
variable {G : Gl} {K : Frag} {A : Around} (g : GlOk G K) (kf : KFacts K) (gf : GFacts G) (q : QnF K) {Post : Out → Prop}
include g kf gf

theorem w_while {L : Addr} (hr : Room 2 A) {letters : Str} (hL : letters.length ≤ 3) {ds : List Nat} {s : Nat} (h0 : 1 ≤ s) (hs : s ≤ ds.length) (hn : ds.length ≤ 20) (hdom : ∀ d ∈ ds, d < letters.length) {N : Int} (hN : 256 ≤ N) {a : Addr} {W : List Nat} (hW : W.length ≤ 20)
    {k m : Nat} {done cur tl : List Nat} {hd : Int} {tt : List Int} (w : WS ds s letters.length N W k done cur m tl hd tt)
    (hP : ∀ ρ2, Sub (wV ds s letters a (pick letters.cps.toList W) 0) ρ2 → ∀ σ2, Post (.next ρ2 σ2)) {wt : Expr} {wp wp1 wp2 wp3 wp4 wp5 : Pos} {ck : Nat} (hwt : wt = .Compare (.Call (.Name "ISEOF" wp1) [.Name "symbol" wp2] [] wp3) [.Is] [.Constant (.bool false) ck wp4] wp5) :
    SJ G (wA A L) (wX L) (wV ds s letters a (pick letters.cps.toList done) hd) [(a, tt.reverse.map .int)] (exec (.While wt (whB ((fB 29)[5]?)) [] wp) (wX L).env) Post := by
  have hsl : (ds.take s).length = s := by rw [List.length_take]; omega
  refine S_whileN (fun k ρ σ => ∃ done cur m tl hd tt, WS ds s letters.length N W k done cur m tl hd tt ∧ ρ = wV ds s letters a (pick letters.cps.toList done) hd ∧ σ = [(a, tt.reverse.map .int)]) k
    ⟨_, ⟨done, cur, m, tl, hd, tt, w, rfl, rfl⟩, Sub.refl⟩ ?_
  clear w
  rintro k ρ1 σ1 ⟨done, cur, m, tl, hd, tt, w, rfl, rfl⟩
  have lens : done.length + cur.length + m * s + tl.length = W.length := by
    rw [← w.w]; simp only [List.length_append, flat_len, hsl]
  have hms : m ≤ m * s := Nat.le_mul_of_pos_right m (by omega)
  have ltt : tt.length = cur.length + m + tl.length := by
    have := congrArg List.length w.st
    unfold stk at this
    simp only [List.length_append, nums_len, nts_len, List.length_cons, List.length_nil] at this
    omega
  subst hwt
  refine ⟨decide (hd = 0) == false, TJ_pt (PT_cmp (PE_of (PW_callK g (PE_glob gf.g_ISEOF rfl) kf.F_ISEOF.keep (PS_cons (PE_name rfl) PS_nil) (w_iseof g kf gf hr.deeper _))) PE_true cmp_isBool), fun h => ?_, fun h ρ2 hsub => ?_⟩
  · have next : ∀ {done' cur' tl' : List Nat} {m' : Nat} {hd' : Int} {tt' : List Int} {k' : Nat}, WS ds s letters.length N W k' done' cur' m' tl' hd' tt' → k' < k → ∀ ρ2, Sub (wV ds s letters a (pick letters.cps.toList done') hd') ρ2 →
        ∃ m, m < k ∧ turnP (fun k ρ σ => ∃ done cur m tl hd tt, WS ds s letters.length N W k done cur m tl hd tt ∧ ρ = wV ds s letters a (pick letters.cps.toList done) hd ∧ σ = [(a, tt.reverse.map .int)]) Post m (.next ρ2 [(a, tt'.reverse.map .int)]) :=
      fun w' hk ρ2 hs => ⟨_, hk, _, ⟨_, _, _, _, _, _, w', rfl, rfl⟩, hs⟩
    -- the pile below always ends with the 0
    have hd_ok : ∀ {cur tl : List Nat} {m : Nat}, ∃ hd' tt', stk N cur m tl = hd' :: tt' := fun {cur tl m} => by
      cases e : stk N cur m tl with
      | nil => have := congrArg List.length e; unfold stk at this; simp at this
      | cons a b => exact ⟨a, b, rfl⟩
    cases cur with
    | cons d cur' =>
      have e := w.st
      have e1 : stk N (d :: cur') m tl = numOf d :: stk N cur' m tl := rfl
      rw [e1] at e
      obtain ⟨rfl, rfl⟩ := List.cons.inj e
      obtain ⟨hd', tt', e2⟩ := hd_ok (cur := cur') (tl := tl) (m := m)
      rw [e2] at ltt ⊢
      simp only [List.length_cons] at ltt lens
      exact w_term g kf gf hr (w.dc d (.head _)) hL (by omega) (by omega) fun ρ2 hs => next (k' := cur'.length + m * (s + 1) + tl.length) ⟨by rw [← w.w]; simp, e2, fun x hx => w.dc x (.tail _ hx), w.dt, rfl⟩ (by rw [w.k]; simp only [List.length_cons]; omega) ρ2 hs
    | nil =>
      cases m with
      | succ m =>
        have e := w.st
        have e1 : stk N [] (m + 1) tl = (N + m) :: stk N [] m tl := rfl
        rw [e1] at e
        obtain ⟨rfl, rfl⟩ := List.cons.inj e
        obtain ⟨hd', tt', e2⟩ := hd_ok (cur := ds.take s) (tl := tl) (m := m)
        have e3 : nums (ds.take s) ++ stk N [] m tl = hd' :: tt' := by rw [← e2]; simp [stk, nums]
        have hlm : (m + 1) * (s + 1) = m * (s + 1) + (s + 1) := Nat.succ_mul m (s + 1)
        exact w_nont g kf gf hr hs (by omega) (by omega) (by rw [ltt]; simp only [List.length_nil]; omega) e3 fun ρ2 hsb => next (k' := (ds.take s).length + m * (s + 1) + tl.length) ⟨by rw [← w.w, flat_succ]; simp, e2, fun x hx => hdom x (List.mem_of_mem_take hx), w.dt, rfl⟩ (by rw [w.k, hsl, hlm]; simp only [List.length_nil]; omega) ρ2 hsb
      | zero =>
        cases tl with
        | cons d tl' =>
          have e := w.st
          have e1 : stk N [] 0 (d :: tl') = numOf d :: stk N [] 0 tl' := rfl
          rw [e1] at e
          obtain ⟨rfl, rfl⟩ := List.cons.inj e
          obtain ⟨hd', tt', e2⟩ := hd_ok (cur := []) (tl := tl') (m := 0)
          rw [e2] at ltt ⊢
          simp only [List.length_cons] at ltt lens
          exact w_term g kf gf hr (w.dt d (.head _)) hL (by omega) (by omega) fun ρ2 hs => next (k' := ([] : List Nat).length + 0 * (s + 1) + tl'.length) ⟨by rw [← w.w]; simp [flat], e2, fun x hx => (by cases hx), fun x hx => w.dt x (.tail _ hx), rfl⟩ (by rw [w.k]; simp) ρ2 hs
        | nil =>
          exfalso
          have e := w.st
          have e1 : stk N [] 0 [] = [0] := rfl
          rw [e1] at e
          obtain ⟨rfl, _⟩ := List.cons.inj e
          simp at h
  · have hz : hd = 0 := by simpa using h
    have : done = W := by
      cases cur with
      | cons d cur' =>
        exfalso
        have e := w.st
        have e1 : stk N (d :: cur') m tl = numOf d :: stk N cur' m tl := rfl
        rw [e1, hz] at e
        have e2 := (List.cons.inj e).1
        have := w.dc d (.head _)
        unfold numOf at e2; omega
      | nil =>
        cases m with
        | succ m =>
          exfalso
          have e := w.st
          have e1 : stk N [] (m + 1) tl = (N + m) :: stk N [] m tl := rfl
          rw [e1, hz] at e
          have e2 := (List.cons.inj e).1
          omega
        | zero =>
          cases tl with
          | cons d tl' =>
            exfalso
            have e := w.st
            have e1 : stk N [] 0 (d :: tl') = numOf d :: stk N [] 0 tl' := rfl
            rw [e1, hz] at e
            have e2 := (List.cons.inj e).1
            have := w.dt d (.head _)
            unfold numOf at e2; omega
          | nil => rw [← w.w]; simp [flat]
    subst this hz
    exact hP ρ2 hsub _
end
end PL

namespace PL
section
variable {G : Gl} {K : Frag} {A : Around} (g : GlOk G K) (kf : KFacts K) (gf : GFacts G) (q : QnF K) {Post : Out → Prop}
include g kf gf

theorem w_written (hr : Room 2 A) {letters : Str} (hL : letters.length ≤ 3) {ds : List Nat} {s : Nat} (h0 : 1 ≤ s) (hs : s ≤ ds.length) (hn : ds.length ≤ 20) (hdom : ∀ d ∈ ds, d < letters.length) :
    COk G A (.ref 259) [aInts (nums ds), .int s, .str letters] fun Z v => VR Z (.str (pick letters.cps.toList (written ds s))) v :=
  COk.eq (fn_ok g kf.F_law_written ["numbers", "size", "letters"] (n := 1) (fun S vs h => match vs, h with | [v1, v2, v3], _ => kf.B_law_written S v1 v2 v3) hr [] rfl fun L => by
    have hh : (wA A L).handled = none := hr.handled
    have hlen : (nums ds).length = ds.length := nums_len ds
    have hrn : ds.length % s < s := Nat.mod_lt _ (by omega)
    have hdn : ds.length / s ≤ ds.length := Nat.div_le_self _ _
    have em : ((ds.length : Int).fmod (s : Int)) = ((ds.length % s : Nat) : Int) := fmod_nat _ _
    have ed : ((ds.length : Int).fdiv (s : Int)) = ((ds.length / s : Nat) : Int) := by rw [Int.fdiv_eq_ediv_of_nonneg _ (by omega)]; rfl
    have hs0 : (s : Int) ≠ 0 := by omega
    have hlt : (nums (ds.take (ds.length % s))).length = ds.length % s := by rw [nums_len, List.length_take]; omega
    have el : ((nums ds).map AV.int).length = ds.length := by rw [List.length_map, hlen]
    refine S_cons (S_newlist (.loc rfl) (PS_cons PE_int PS_nil) (by decide) fun a => ?_)
    -- the rest of the text, turned
    refine S_cons (S_forN (x := "place") (fun p ρ σ => ρ = ([("numbers", aInts (nums ds)), ("size", .int s), ("letters", .str letters), ("pile", .ref a)] : Vars) ∧ σ = [(a, AV.int 0 :: ((nums (ds.take (ds.length % s))).reverse.take p).map .int)])
      (PW_callT (PE_glob gf.g_range rfl) (PS_cons (PE.ci (PE_mod (PE.ci (PW_callB (PE_glob gf.g_len rfl) (PS_cons (PE_name rfl) PS_nil) (c_lenL (by omega))) (by rw [el])) (PE_name rfl) hs0) em) PS_nil) c_range1) (iter_up hh (by omega)) (.loc rfl) ⟨_, ⟨rfl, by simp⟩, .cons rfl (.cons rfl (.cons rfl (.cons rfl .nil)))⟩ ?_ ?_)
    · rintro p it ρ1 σ1 hget ⟨rfl, rfl⟩
      obtain ⟨hp, rfl⟩ := range_up hget
      have hi : ds.length % s - 1 - p < (nums ds).length := by rw [hlen]; omega
      refine S_cons (S_append (a := a) (xs0 := AV.int 0 :: ((nums (ds.take (ds.length % s))).reverse.take p).map .int) rfl (.head _) (EJ_pure (PE_itemL (x := .int ((nums ds).getD (ds.length % s - 1 - p) 0)) (PE_name rfl)
        (PE.ci (PE_sub (PE_sub (PE_mod (PE.ci (PW_callB (PE_glob gf.g_len rfl) (PS_cons (PE_name rfl) PS_nil) (c_lenL (by omega))) (by rw [el])) (PE_name rfl) hs0) PE_int) (PE_name rfl)) (by rw [em]; omega : (ds.length : Int).fmod s - 1 - p = ((ds.length % s - 1 - p : Nat) : Int))) (by omega) (by omega) (by rw [Int.toNat_natCast]; exact aInts_get hi))
        ⟨_, _, .head, by rw [List.length_cons, List.length_map, List.length_take, List.length_reverse, hlt]; omega, S_nil ⟨_, ⟨rfl, ?_⟩, .cons rfl (.cons rfl (.cons rfl (.cons rfl .nil)))⟩⟩))
      rw [← lay_list (by omega) hp, List.map_append]
      rfl
    rintro ρ1 σ1 ⟨rfl, rfl⟩ ρ2 hsub
    rw [len_up, List.take_of_length_le (by rw [List.length_reverse, hlt]; exact Nat.le_refl _)]
    refine SJ.less ?_ hsub
    -- the rule, as often as it goes whole
    refine S_cons (S_forN (x := "turn") (fun p ρ σ => ρ = ([("numbers", aInts (nums ds)), ("size", .int s), ("letters", .str letters), ("pile", .ref a)] : Vars) ∧ σ = [(a, (stk (256 * (1 + (ds.length : Int) - s)) [] p (ds.take (ds.length % s))).reverse.map .int)])
      (PW_callT (PE_glob gf.g_range rfl) (PS_cons (PE.ci (PE_fdiv (PE.ci (PW_callB (PE_glob gf.g_len rfl) (PS_cons (PE_name rfl) PS_nil) (c_lenL (by omega))) (by rw [el])) (PE_name rfl) hs0 (by omega)) ed) PS_nil) c_range1) (iter_up hh (by omega)) (.loc rfl) ⟨_, ⟨rfl, by simp [stk, nts, nums]⟩, .cons rfl (.cons rfl (.cons rfl (.cons rfl .nil)))⟩ ?_ ?_)
    · rintro p it ρ1 σ1 hget ⟨rfl, rfl⟩
      obtain ⟨hp, rfl⟩ := range_up hget
      refine S_cons (S_append (a := a) (xs0 := (stk (256 * (1 + (ds.length : Int) - s)) [] p (ds.take (ds.length % s))).reverse.map .int) rfl (.head _) (EJ_pure (PE_add (PE_mul PE_int (PE_sub (PE_add PE_int (PE.ci (PW_callB (PE_glob gf.g_len rfl) (PS_cons (PE_name rfl) PS_nil) (c_lenL (by omega))) (by rw [el]))) (PE_name rfl)) (by decide) (by decide)) (PE_name rfl))
        ⟨_, _, .head, ?_, S_nil ⟨_, ⟨rfl, ?_⟩, .cons rfl (.cons rfl (.cons rfl (.cons rfl .nil)))⟩⟩))
      · rw [List.length_map, List.length_reverse, stk]
        simp only [List.length_append, nums_len, nts_len, List.length_take, List.length_cons, List.length_nil]
        omega
      · rw [show stk (256 * (1 + (ds.length : Int) - s)) [] (p + 1) (ds.take (ds.length % s)) = (256 * (1 + (ds.length : Int) - s) + p) :: stk (256 * (1 + (ds.length : Int) - s)) [] p (ds.take (ds.length % s)) from rfl]
        rw [List.reverse_cons, List.map_append]
        rfl
    rintro ρ1 σ1 ⟨rfl, rfl⟩ ρ2 hsub
    rw [len_up]
    refine SJ.less ?_ hsub
    have hlw := written_len h0 hs
    obtain ⟨hd, tt, e⟩ : ∃ hd tt, stk (256 * (1 + (ds.length : Int) - s)) [] (ds.length / s) (ds.take (ds.length % s)) = hd :: tt := by
      cases e : stk (256 * (1 + (ds.length : Int) - s)) [] (ds.length / s) (ds.take (ds.length % s)) with
      | nil => have := congrArg List.length e; unfold stk at this; simp at this
      | cons a b => exact ⟨a, b, rfl⟩
    have ltt : tt.length ≤ 100 := by
      have := congrArg List.length e
      unfold stk at this
      simp only [List.length_append, nums_len, nts_len, List.length_cons, List.length_nil, List.length_take] at this
      omega
    refine S_cons (S_assign (.loc rfl) (EJ_pure PE_str ?_))
    have e2 : (hd :: tt).reverse.map AV.int = tt.reverse.map AV.int ++ [.int hd] := by simp
    rw [e, e2]
    refine S_cons (S_assign (.loc rfl) (E_pop rfl .head (by rw [List.length_map, List.length_reverse]; omega) ?_))
    have ws : WS ds s letters.length (256 * (1 + (ds.length : Int) - s)) (written ds s) _ [] [] (ds.length / s) (ds.take (ds.length % s)) hd tt := ⟨by simp [written], e, fun x hx => (by cases hx), fun x hx => hdom x (List.mem_of_mem_take hx), rfl⟩
    refine S_cons (SJ.less (ρ' := wV ds s letters a (pick letters.cps.toList []) hd) (w_while g kf gf hr hL h0 hs hn hdom (by omega) (by omega) ws (fun ρ2 hs2 σ2 => ?_) rfl) (Sub.cons rfl (.cons rfl (.cons rfl (.cons rfl (.cons rfl (.cons rfl .nil)))))))
    refine SJ.less ?_ hs2
    refine S_cons (S_if (TJ_pt (PT_and (PT_cmp (PE_of (PW_callK g (PE_glob gf.g_ISEOF rfl) kf.F_ISEOF.keep (PS_cons (PE_name rfl) PS_nil) (w_iseof g kf gf hr.deeper _))) PE_true cmp_isBool) fun _ =>
      PT_and (PT_cmp (PE_of (PW_callK g (PE_glob gf.g_ISTERMINAL rfl) kf.F_ISTERMINAL.keep (PS_cons (PE_name rfl) PS_nil) (w_isterm g kf gf hr.deeper _))) PE_true cmp_isBool) fun _ => PT_andN)) (fun _ => S_cons (S_ret (EJ_pure (PE_name rfl) rfl))) fun h => by cases h))
end
end PL

namespace PL
/-- each rest stands twice side by side, the last one laid in its place -/
structure Twice (T : Str) (row lasts : List AV) (side : Nat) : Prop where
  lr : row.length = 2 * T.length
  ll : lasts.length = T.length
  at_ : ∀ j, j < T.length → ∃ p x y b, p < T.length ∧ row[2 * j]? = some x ∧ row[2 * j + 1]? = some y ∧ Nm 145 x ∧ Nm 145 y ∧ bareA x = suf T p ∧ bareA y = suf T p ∧ lasts[p]? = some (.qn 145 b (suf T p)) ∧ (if (p + side) % 2 = 0 then x else y) = .qn 145 b (suf T p)
theorem suf_len (T : Str) (p : Nat) : (suf T p).length = T.length - p := by
  simp [suf, cutS, Str.length]

theorem iter_two {G : Gl} {A : Around} {n : Nat} {b : Int} (hh : A.handled = none) (h : n ≤ 1000) (hb : b = 2 * n) : IterOk G A (.rng 0 b 2) ((List.range n).map fun (k : Nat) => .int (0 + k * 2)) := by
  have sz : Builtin.Range.rangeSize 0 b 2 = (n : Int) := by
    unfold Builtin.Range.rangeSize
    rw [if_pos (by decide)]
    split <;> omega
  refine iter_range hh ?_ sz
  unfold Builtin.Range.small
  rw [sz]
  simp only [Builtin.Range.rangeFitsLong, Bool.and_eq_true, Bool.or_eq_true, decide_eq_true_eq, beq_iff_eq, show (2 : Int) > 0 by decide, if_true]
  omega
section
variable {G : Gl} {K : Frag} {A : Around} (g : GlOk G K) (kf : KFacts K) (gf : GFacts G) (q : QnF K) {Post : Out → Prop}

theorem cmp_isntSelf {a : Addr} {t : Str} : CmpOk G A .IsNot (.qn 145 a t) (.qn 145 a t) false := fun Z s E v1 v2 _ i h1 h2 => by
  obtain ⟨rfl, _, _, _, _, _, I⟩ := h1.qnInst i
  obtain ⟨rfl, _⟩ := h2.qnInst i
  exact wpAny_isNot_ref_self ⟨rfl, keeps_refl s⟩

include g kf gf q
theorem w_twice (hr : Room 2 A) {T : Str} (hT : T.length ≤ 20) {row lasts : List AV} {side : Nat} (hside : side ≤ 1) (tw : Twice T row lasts side) : COk G A (.ref 233) [.list row, .list lasts, .int side] fun Z v => VR Z (.bool true) v :=
  COk.eq (fn_ok g kf.F_law_twice ["row", "lasts", "side"] (n := 1) (fun S vs h => match vs, h with | [v1, v2, v3], _ => kf.B_law_twice S v1 v2 v3) hr [] rfl fun L => by
    have hh : (A.deeper (envOfC "_law_twice" (fS 25) L 233 (.ref 232))).handled = none := hr.handled
    have hr' : Room 1 (A.deeper (envOfC "_law_twice" (fS 25) L 233 (.ref 232))) := hr.deeper
    have lr := tw.lr
    have ll := tw.ll
    refine S_cons (S_forN (x := "spot") (fun i ρ σ => σ = [] ∧ ρ = ([("row", .list row), ("lasts", .list lasts), ("side", .int side)] : Vars))
      (PW_callT (PE_glob gf.g_range rfl) (PS_cons PE_int (PS_cons (PW_callB (PE_glob gf.g_len rfl) (PS_cons (PE_name rfl) PS_nil) (c_lenL (by omega))) (PS_cons PE_int PS_nil))) (c_range3 (by decide) (by decide)))
      (iter_two (n := T.length) hh (by omega) (by rw [lr]; omega)) (.loc rfl) ⟨_, ⟨rfl, rfl⟩, .cons rfl (.cons rfl (.cons rfl .nil))⟩ ?_ ?_)
    · rintro i it ρ1 σ1 hget ⟨rfl, rfl⟩
      have hget2 : i < T.length ∧ it = .int (0 + (i : Int) * 2) := by
        rw [List.getElem?_map] at hget
        by_cases q : i < T.length
        · rw [List.getElem?_range q] at hget; cases hget; exact ⟨q, rfl⟩
        · rw [List.getElem?_eq_none (by simpa using q)] at hget; cases hget
      obtain ⟨hi, rfl⟩ := hget2
      obtain ⟨p, x, y, b, hp, hx, hy, nx, ny, bx, bY, hl, hz⟩ := tw.at_ i hi
      have e0 : (0 + (i : Int) * 2) = ((2 * i : Nat) : Int) := by omega
      have lx : (bareA x).length = T.length - p := by rw [bx]; exact suf_len T p
      have em : ((p : Int) + side).fmod 2 = (((p + side) % 2 : Nat) : Int) := by
        rw [show (p : Int) + side = ((p + side : Nat) : Int) by omega]; exact fmod_nat _ 2
      refine S_cons (S_assign (.loc rfl) (EJ_pure (PE.ci (PE_sub (PW_callB (PE_glob gf.g_len rfl) (PS_cons (PE_name rfl) PS_nil) (c_lenL (by omega))) (PW_callB (PE_glob gf.g_len rfl) (PS_cons (PE_of (PW_callK g (PE_glob gf.g_law_bare rfl) kf.F_law_bare.keep (PS_cons (PE_itemL (x := x) (PE_name rfl) (PE.ci (PE_name rfl) e0) (by omega) (by omega) (by rw [Int.toNat_natCast]; exact hx)) PS_nil) (w_bare g kf gf q hr' nx))) PS_nil) (c_lenS (by omega)))) (by rw [lx, ll]; omega : (lasts.length : Int) - (bareA x).length = (p : Int))) ?_))
      refine S_cons (S_assign (.loc rfl) (EJ_pure (PE.ci (PE_mod (PE_add (PE_name rfl) (PE_name rfl)) PE_int (by decide)) em) ?_))
      by_cases h2 : (p + side) % 2 = 0
      · rw [if_pos h2] at hz
        subst hz
        rw [h2]
        refine S_cons (S_if (TJ_pt (PT_or (PT_cmp (PE_itemL (x := .qn 145 b (suf T p)) (PE_name rfl) (PE.ci (PE_add (PE_name rfl) (PE_name rfl)) (by omega : (0 + (i : Int) * 2) + ((0 : Nat) : Int) = ((2 * i : Nat) : Int))) (by omega) (by omega) (by rw [Int.toNat_natCast]; exact hx)) (PE_itemL (x := .qn 145 b (suf T p)) (PE_name rfl) (PE_name rfl) (by omega) (by omega) (by rw [Int.toNat_natCast]; exact hl)) cmp_isntSelf)
          fun _ => PT_or (PT_cmp (PE_of (PW_callK g (PE_glob gf.g_law_bare rfl) kf.F_law_bare.keep (PS_cons (PE_itemL (x := y) (PE_name rfl) (PE.ci (PE_sub (PE_add (PE_name rfl) PE_int) (PE_name rfl)) (by omega : (0 + (i : Int) * 2) + 1 - ((0 : Nat) : Int) = ((2 * i + 1 : Nat) : Int))) (by omega) (by omega) (by rw [Int.toNat_natCast]; exact hy)) PS_nil) (w_bare g kf gf q hr' ny)))
            (PE_text g q (PE_itemL (x := .qn 145 b (suf T p)) (PE_name rfl) (PE_name rfl) (by omega) (by omega) (by rw [Int.toNat_natCast]; exact hl))) cmp_nes) fun _ => PT_orN)) (fun h => ?_) fun _ => S_nil (S_nil ⟨_, ⟨rfl, rfl⟩, .cons rfl (.cons rfl (.cons rfl .nil))⟩))
        rw [bY] at h; simp at h
      · rw [if_neg h2] at hz
        subst hz
        rw [show (p + side) % 2 = 1 by omega]
        refine S_cons (S_if (TJ_pt (PT_or (PT_cmp (PE_itemL (x := .qn 145 b (suf T p)) (PE_name rfl) (PE.ci (PE_add (PE_name rfl) (PE_name rfl)) (by omega : (0 + (i : Int) * 2) + ((1 : Nat) : Int) = ((2 * i + 1 : Nat) : Int))) (by omega) (by omega) (by rw [Int.toNat_natCast]; exact hy)) (PE_itemL (x := .qn 145 b (suf T p)) (PE_name rfl) (PE_name rfl) (by omega) (by omega) (by rw [Int.toNat_natCast]; exact hl)) cmp_isntSelf)
          fun _ => PT_or (PT_cmp (PE_of (PW_callK g (PE_glob gf.g_law_bare rfl) kf.F_law_bare.keep (PS_cons (PE_itemL (x := x) (PE_name rfl) (PE.ci (PE_sub (PE_add (PE_name rfl) PE_int) (PE_name rfl)) (by omega : (0 + (i : Int) * 2) + 1 - ((1 : Nat) : Int) = ((2 * i : Nat) : Int))) (by omega) (by omega) (by rw [Int.toNat_natCast]; exact hx)) PS_nil) (w_bare g kf gf q hr' nx)))
            (PE_text g q (PE_itemL (x := .qn 145 b (suf T p)) (PE_name rfl) (PE_name rfl) (by omega) (by omega) (by rw [Int.toNat_natCast]; exact hl))) cmp_nes) fun _ => PT_orN)) (fun h => ?_) fun _ => S_nil (S_nil ⟨_, ⟨rfl, rfl⟩, .cons rfl (.cons rfl (.cons rfl .nil))⟩))
        rw [bx] at h; simp at h
    · rintro ρ1 σ1 ⟨rfl, rfl⟩ ρ2 hsub
      exact S_cons (S_ret (EJ_pure PE_true rfl)))
end
end PL

namespace PL
/-- what a hand writes: each sign spelled -/
structure HandIs (h : Hand) (hand : Str → Str) : Prop where
  l2 : 2 ≤ h.letters.length
  l3 : h.letters.length ≤ 3
  nd : h.letters.cps.toList.Nodup
  sp : h.spelled.length = h.letters.length
  ok : ∀ ds, (∀ d ∈ ds, d < h.letters.length) → ds.length ≤ 12 → hand (pick h.letters.cps.toList ds) = Txt.join "" (ds.map (h.spelled.getD · ""))

theorem hand_len (n : Int) : 2 ≤ (handOf n).letters.length ∧ (handOf n).letters.length ≤ 3 := by
  unfold handOf
  split; · decide
  split; · decide
  split; · decide
  split <;> decide

abbrev lawMc : List Str := ["letters", "spelled", "text", "names", "pages", "numbers", "first"]
abbrev lawX (L : Addr) : Fx := frX "law" (fS 30) L 264 (.ref 263) lawMc [(225, 221, tabQ)]
theorem lawSto {L : Addr} {x : Str} (h : (fS 30).names.lookup x = some .cell) (m : x ∈ lawMc) : Sto (lawX L) x := .cell h m

section
variable {G : Gl} {K : Frag} {A : Around} (g : GlOk G K) (kf : KFacts K) (gf : GFacts G) (q : QnF K)
include g kf gf q

abbrev handFn : Addr → Str → Str := fun f t =>
  if f = 163 then sOf (escCdata t.cps.toList) else if f = 184 then sOf (escCdataC14n t.cps.toList) else if f = 177 then sOf (escAttribHtml t.cps.toList) else if f = 191 then sOf (escAttribC14n t.cps.toList) else sOf (escAttrib t.cps.toList)
theorem hand_ok (n : Int) : HandOk G K (handOf n).f (handFn (handOf n).f) fun t => t.length ≤ 12 := by
  have len : ∀ t : Str, t.length ≤ 12 → t.cps.toList.length ≤ 12 := fun t h => by simpa [Str.length] using h
  unfold handOf
  split
  · exact ⟨kf.F_escape_cdata.keep, fun A hr t ht => by have := w_esc_cdata g kf gf hr (len t ht); rw [sOf_eta] at this; exact this⟩
  split
  · exact ⟨kf.F_escape_cdata_c14n.keep, fun A hr t ht => by have := w_esc_cdata_c14n g kf gf hr (len t ht); rw [sOf_eta] at this; exact this⟩
  split
  · exact ⟨kf.F_escape_attrib_html.keep, fun A hr t ht => by have := w_esc_attrib_html g kf gf hr (len t ht); rw [sOf_eta] at this; exact this⟩
  split
  · exact ⟨kf.F_escape_attrib_c14n.keep, fun A hr t ht => by have := w_esc_attrib_c14n g kf gf hr (len t ht); rw [sOf_eta] at this; exact this⟩
  · exact ⟨kf.F_escape_attrib.keep, fun A hr t ht => by have := w_esc_attrib g kf gf hr (len t ht); rw [sOf_eta] at this; exact this⟩

/-- what stands before the tests -/
def lawV (c0 c1 c2 : Int) (T : Str) (n p l : List AV) (ns : List Int) : Vars :=
  [("script", .ilist ns), ("cells", aInts [c0, c1, c2]), ("hand", .val (.ref (handOf c0).f)), ("letters", .str (handOf c0).letters), ("spelled", aStrs (handOf c0).spelled), ("text", .str T), ("names", .list n), ("pages", .list p), ("lasts", .list l), ("told", .list (List.replicate (4 * T.length) .none))]

theorem w_law_head (gl : GlLam G) (hcode : ∀ h, PIn G.Z0 h → CodeHd h 225 221) {L : Addr} (hr : Room 6 A) {ns : List Int} (hn : ns.length ≤ 1000) {P : Out → Prop} {rest : List Stmt} (he : fB 30 = (fB 30).take 4 ++ rest)
    (hP : ∀ c0 c1 c2 T ds n p l, TextOf (handOf c0).letters.cps.toList T ds → 5 ≤ ds.length → ds.length ≤ 10 → Rows (handFn (handOf c0).f) (suf T) (c2.fdiv 32) T.length n p l → SJ G A (lawX L) (lawV c0 c1 c2 T n p l ns) [] (execs rest (lawX L).env) P) :
    SJ G A (lawX L) [("script", .ilist ns)] [] (execs ((fB 30).take 4 ++ rest) (lawX L).env) P := by
  obtain ⟨c0, c1, c2, hc⟩ : ∃ c0 c1 c2, cellsAt [70, 13, 1647] ns ns.length = [c0, c1, c2] := by
    have := cellsAt_length [70, 13, 1647] ns ns.length
    match h : cellsAt [70, 13, 1647] ns ns.length, this with
    | [a, b, c], _ => exact ⟨a, b, c, rfl⟩
  have hh := hr.handled
  have hw := w_cells g kf gf (A := A) (hr.le (by omega)) ns hn
  rw [hc] at hw
  obtain ⟨hl2, hl3⟩ := hand_len c0
  refine S_cons (S_assign (.loc rfl) (EJ_pure (PW_callK g (PE_glob gf.g_law_cells rfl) kf.F_law_cells.keep (PS_cons (PE_name rfl) PS_nil) hw) ?_))
  refine S_cons (S_unpack (xs := ["hand", "letters", "spelled"]) (.cons (.loc rfl) (.cons (lawSto rfl (by decide)) (.cons (lawSto rfl (by decide)) .nil))) hh (EJ_pure (PE_of (PW_callK g (PE_glob gf.g_law_hand rfl) kf.F_law_hand.keep (PS_cons (PE_itemL (x := .int c0) (PE_name rfl) PE_int (by decide) (by decide) rfl) PS_nil) (w_hand g kf gf (hr.le (by omega)) c0))) ⟨_, rfl, rfl, ?_⟩))
  refine S_cons (S_assign (lawSto rfl (by decide)) (EJ_pureR (PW_callK g (PE_glob gf.g_law_text rfl) kf.F_law_text.keep (PS_cons (PE_name rfl) (PS_cons (PE_name rfl) PS_nil)) (w_text g kf gf (hr.le (by omega)) hl2 hl3)) fun Z v hv => ?_))
  obtain ⟨x, hx, T, ds, rfl, hT, h5, h10⟩ := hv
  refine ⟨_, hx, ?_⟩
  have hTl : T.length = ds.length := by rw [hT.eq, sOf_len, List.length_map]
  refine S_cons (S_unpack (xs := ["names", "pages", "lasts", "told"]) (.cons (lawSto rfl (by decide)) (.cons (lawSto rfl (by decide)) (.cons (.loc rfl) (.cons (.loc rfl) .nil)))) hh
    (E_lendT g kf.F_law_rows ["text", "hand", "dress"] [("hand", .val (.ref (handOf c0).f))] (n := 4) (P := fun x => ∃ n p l, Rows (handFn (handOf c0).f) (suf T) (c2.fdiv 32) T.length n p l ∧ x = .tup [.list n, .list p, .list l, .list (List.replicate (4 * T.length) .none)])
      (PE_glob gf.g_law_rows rfl) (.head _) (PS_cons (PE_name rfl) (PS_cons (PE_name rfl) (PS_cons (PE_fdiv (PE_itemL (x := .int c2) (PE_name rfl) PE_int (by decide) (by decide) rfl) PE_int (by decide) (by decide)) PS_nil)))
      (fun S vs h => match vs, h with | [v1, v2, v3], _ => kf.B_law_rows S v1 v2 v3) (hr.le (by omega)) [] rfl (fun p hp => by rw [List.mem_singleton.mp hp]; exact ⟨rfl, by simp, _, rfl, rfl⟩)
      (fun L => w_rows_body g kf gf q gl hcode (hr.le (by omega) : Room 5 A).deeper (hand_ok g kf gf q c0) (by omega)) fun x hx => ?_))
  obtain ⟨n, p, l, hrow, rfl⟩ := hx
  exact ⟨_, rfl, rfl, SJ.less (hP c0 c1 c2 T ds n p l hT h5 h10 hrow) (Sub.cons rfl (.cons rfl (.cons rfl (.cons rfl (.cons rfl (.cons rfl (.cons rfl (.cons rfl (.cons rfl (.cons rfl .nil))))))))))⟩
end
end PL

namespace PL
section
variable {G : Gl} {K : Frag} {A : Around} (g : GlOk G K) (kf : KFacts K) (gf : GFacts G) (q : QnF K)
include g kf gf q

/-- each insort gives None -/
theorem w_law_given {L : Addr} (hr : Room 6 A) {c0 c1 c2 : Int} {T : Str} {n p l : List AV} {ns : List Int} (hT : T.length ≤ 12) {P : Out → Prop} {rest : List Stmt}
    (hP : SJ G A (lawX L) (lawV c0 c1 c2 T n p l ns) [] (execs rest (lawX L).env) P) :
    SJ G A (lawX L) (lawV c0 c1 c2 T n p l ns) [] (execs ((fB 30).getD 4 (.Pass ⟨0, 0, 0, 0⟩) :: rest) (lawX L).env) P := by
  have hh := hr.handled
  refine S_cons (S_if (TJ_pt (PT_cmp (PE.conv (PE_comp (caps := []) (fun _ => false) id (PE_name (v := .list (List.replicate (4 * T.length) .none)) rfl) (iter_list hh) (by rw [List.length_replicate]; omega)
    (fun it h => by rw [(List.mem_replicate.mp h).2]; rfl) (fun it h hf => by cases hf) rfl (by decide) rfl (by decide) rfl ⟨fun y v e => by cases e⟩
    (fun C it h => by rw [(List.mem_replicate.mp h).2]; exact PW_tests1 (PT_cmp (PE_name rfl) PE_none cmp_noneIsnt)) (fun C it h hf => by cases hf)) (by simp)) (PE_lst PS_nil (by decide)) (cmp_neNil (by have := hr.units; omega)))) (fun h => by cases h) fun _ => S_nil hP)
/-- the rests stand twice side by side -/
theorem w_law_twice {L : Addr} (hr : Room 6 A) {c0 c1 c2 : Int} {T : Str} {n p l : List AV} {ns : List Int} (hT : T.length ≤ 12) (t0 : Twice T n l 0) (t1 : Twice T p l 1) {P : Out → Prop} {rest : List Stmt}
    (hP : SJ G A (lawX L) (lawV c0 c1 c2 T n p l ns) [] (execs rest (lawX L).env) P) :
    SJ G A (lawX L) (lawV c0 c1 c2 T n p l ns) [] (execs ((fB 30).getD 6 (.Pass ⟨0, 0, 0, 0⟩) :: rest) (lawX L).env) P :=
  S_cons (S_if (TJ_pt (PT_or (PT_not (PT_plain (PW_callK g (PE_glob gf.g_law_twice rfl) kf.F_law_twice.keep (PS_cons (PE_name rfl) (PS_cons (PE_name rfl) (PS_cons PE_int PS_nil))) (w_twice g kf gf q (hr.le (by omega)) (by omega) (side := 0) (by omega) t0))))
    fun _ => PT_or (PT_not (PT_plain (PW_callK g (PE_glob gf.g_law_twice rfl) kf.F_law_twice.keep (PS_cons (PE_name rfl) (PS_cons (PE_name rfl) (PS_cons PE_int PS_nil))) (w_twice g kf gf q (hr.le (by omega)) (by omega) (side := 1) (by omega) t1)))) fun _ => PT_orN)) (fun h => by cases h) fun _ => S_nil hP)
end
end PL

namespace PL
/-- the places of a row's pairs, by the rest that stands there -/
def sizesOf (row : List AV) (m : Nat) : List Nat := (List.range m).map fun k => (bareA (row.getD (2 * k) .none)).length

section
variable {G : Gl} {K : Frag} {A : Around} (g : GlOk G K) (kf : KFacts K) (gf : GFacts G) (q : QnF K)
include g kf gf q

theorem w_law_plain {L : Addr} (hr : Room 6 A) {c0 c1 c2 : Int} {T : Str} {n p l : List AV} {ns : List Int} (hT : T.length ≤ 12) (rf : RowsFacts (suf T) T.length n p l) {P : Out → Prop} {rest : List Stmt}
    (hP : SJ G A (lawX L) (("plain", aInts ((sizesOf n T.length).map fun (k : Nat) => (k : Int))) :: lawV c0 c1 c2 T n p l ns) [] (execs rest (lawX L).env) P) :
    SJ G A (lawX L) (lawV c0 c1 c2 T n p l ns) [] (execs ((fB 30).getD 7 (.Pass ⟨0, 0, 0, 0⟩) :: rest) (lawX L).env) P := by
  have hh := hr.handled
  have mem : ∀ it, it ∈ (List.range T.length).map (fun (k : Nat) => AV.int k) → ∃ k : Nat, k < T.length ∧ it = .int (k : Int) := fun it h => by
    obtain ⟨k, hk, rfl⟩ := List.mem_map.mp h
    exact ⟨k, List.mem_range.mp hk, rfl⟩
  have item : ∀ k, k < T.length → ∃ y, n[2 * k]? = some y ∧ n.getD (2 * k) .none = y ∧ Nm 145 y ∧ (bareA y).length ≤ 12 := fun k hk => by
    have hlt : 2 * k < n.length := by rw [rf.ln]; omega
    refine ⟨n[2 * k], List.getElem?_eq_getElem hlt, by simp [List.getD, hlt], (rf.mn _ (List.getElem_mem hlt)).1, ?_⟩
    obtain ⟨j, _, e⟩ := (rf.mn _ (List.getElem_mem hlt)).2
    rw [e]; exact Nat.le_trans (cutS_len T _ _) hT
  refine S_cons (S_assignComp (caps := [("names", .list n)]) (fun _ => true) (fun x => match x with | .int v => .int ((bareA (n.getD (2 * v.toNat) .none)).length : Nat) | _ => .none) rfl
    (PW_callT (PE_glob gf.g_range rfl) (PS_cons (PW_callB (PE_glob gf.g_len rfl) (PS_cons (PE_name rfl) PS_nil) (c_lenS (by omega))) PS_nil) c_range1) (iter_up hh (by omega)) (by simp; omega)
    (fun it h => by obtain ⟨k, _, rfl⟩ := mem it h; rfl) (fun it h _ => by obtain ⟨k, _, rfl⟩ := mem it h; rfl) rfl (by decide) rfl (by decide) rfl ⟨fun y v e => ?_⟩ (fun C it h => PW_tests0) (fun C it h _ => ?_) ?_)
  · rw [lookup_cons_if] at e
    by_cases q : y = ("names" : Str)
    · subst q; rw [if_pos rfl] at e; cases e; exact ⟨rfl, .inl rfl, .inl rfl, rfl⟩
    · rw [if_neg q] at e; cases e
  · obtain ⟨k, hk, rfl⟩ := mem it h
    obtain ⟨y, h1, h2, h3, h4⟩ := item k hk
    show PE _ _ _ _ _ (.int ((bareA (n.getD (2 * (k : Int).toNat) .none)).length : Nat))
    rw [Int.toNat_natCast, h2]
    exact PW_callB (PE_glob gf.g_len rfl) (PS_cons (PE_of (PW_callK g (PE_glob gf.g_law_bare rfl) kf.F_law_bare.keep (PS_cons (PE_itemL (x := y) (PE_name rfl) (PE.ci (PE_mul PE_int (PE_name rfl) (by decide) (by decide)) (by omega : (2 : Int) * k = ((2 * k : Nat) : Int))) (by omega) (by omega) (by rw [Int.toNat_natCast]; exact h1)) PS_nil) (w_bare g kf gf q (hr.le (by omega)) h3))) PS_nil) (c_lenS (by omega))
  · have e : (((List.range T.length).map fun (k : Nat) => AV.int k).filter fun _ => true).map (fun x => match x with | .int v => .int ((bareA (n.getD (2 * v.toNat) .none)).length : Nat) | _ => .none) = ((sizesOf n T.length).map fun (k : Nat) => (k : Int)).map AV.int := by
      rw [show ((List.range T.length).map fun (k : Nat) => AV.int k).filter (fun _ => true) = (List.range T.length).map fun (k : Nat) => AV.int k from List.filter_eq_self.mpr (fun _ _ => rfl), sizesOf, List.map_map, List.map_map, List.map_map]
      rfl
    rw [e]
    exact SJ.less hP (Sub.cons rfl (.cons rfl (.cons rfl (.cons rfl (.cons rfl (.cons rfl (.cons rfl (.cons rfl (.cons rfl (.cons rfl (.cons rfl .nil)))))))))))
theorem w_law_turned {L : Addr} (hr : Room 6 A) {c0 c1 c2 : Int} {T : Str} {n p l : List AV} {ns : List Int} (hT : T.length ≤ 12) (rf : RowsFacts (suf T) T.length n p l) {P : Out → Prop} {rest : List Stmt}
    {pl : AV} (hP : SJ G A (lawX L) (("turned", aInts ((sizesOf p T.length).map fun (k : Nat) => (k : Int))) :: ("plain", pl) :: lawV c0 c1 c2 T n p l ns) [] (execs rest (lawX L).env) P) :
    SJ G A (lawX L) (("plain", pl) :: lawV c0 c1 c2 T n p l ns) [] (execs ((fB 30).getD 8 (.Pass ⟨0, 0, 0, 0⟩) :: rest) (lawX L).env) P := by
  have hh := hr.handled
  have mem : ∀ it, it ∈ (List.range T.length).map (fun (k : Nat) => AV.int k) → ∃ k : Nat, k < T.length ∧ it = .int (k : Int) := fun it h => by
    obtain ⟨k, hk, rfl⟩ := List.mem_map.mp h
    exact ⟨k, List.mem_range.mp hk, rfl⟩
  have item : ∀ k, k < T.length → ∃ y, p[2 * k]? = some y ∧ p.getD (2 * k) .none = y ∧ Nm 145 y ∧ (bareA y).length ≤ 12 := fun k hk => by
    have hlt : 2 * k < p.length := by rw [rf.lp]; omega
    refine ⟨p[2 * k], List.getElem?_eq_getElem hlt, by simp [List.getD, hlt], (rf.mp _ (List.getElem_mem hlt)).1, ?_⟩
    obtain ⟨j, _, e⟩ := (rf.mp _ (List.getElem_mem hlt)).2
    rw [e]; exact Nat.le_trans (cutS_len T _ _) hT
  refine S_cons (S_assignComp (caps := [("pages", .list p)]) (fun _ => true) (fun x => match x with | .int v => .int ((bareA (p.getD (2 * v.toNat) .none)).length : Nat) | _ => .none) rfl
    (PW_callT (PE_glob gf.g_range rfl) (PS_cons (PW_callB (PE_glob gf.g_len rfl) (PS_cons (PE_name rfl) PS_nil) (c_lenS (by omega))) PS_nil) c_range1) (iter_up hh (by omega)) (by simp; omega)
    (fun it h => by obtain ⟨k, _, rfl⟩ := mem it h; rfl) (fun it h _ => by obtain ⟨k, _, rfl⟩ := mem it h; rfl) rfl (by decide) rfl (by decide) rfl ⟨fun y v e => ?_⟩ (fun C it h => PW_tests0) (fun C it h _ => ?_) ?_)
  · rw [lookup_cons_if] at e
    by_cases q : y = ("pages" : Str)
    · subst q; rw [if_pos rfl] at e; cases e; exact ⟨rfl, .inl rfl, .inl rfl, rfl⟩
    · rw [if_neg q] at e; cases e
  · obtain ⟨k, hk, rfl⟩ := mem it h
    obtain ⟨y, h1, h2, h3, h4⟩ := item k hk
    show PE _ _ _ _ _ (.int ((bareA (p.getD (2 * (k : Int).toNat) .none)).length : Nat))
    rw [Int.toNat_natCast, h2]
    exact PW_callB (PE_glob gf.g_len rfl) (PS_cons (PE_of (PW_callK g (PE_glob gf.g_law_bare rfl) kf.F_law_bare.keep (PS_cons (PE_itemL (x := y) (PE_name rfl) (PE.ci (PE_mul PE_int (PE_name rfl) (by decide) (by decide)) (by omega : (2 : Int) * k = ((2 * k : Nat) : Int))) (by omega) (by omega) (by rw [Int.toNat_natCast]; exact h1)) PS_nil) (w_bare g kf gf q (hr.le (by omega)) h3))) PS_nil) (c_lenS (by omega))
  · have e : (((List.range T.length).map fun (k : Nat) => AV.int k).filter fun _ => true).map (fun x => match x with | .int v => .int ((bareA (p.getD (2 * v.toNat) .none)).length : Nat) | _ => .none) = ((sizesOf p T.length).map fun (k : Nat) => (k : Int)).map AV.int := by
      rw [show ((List.range T.length).map fun (k : Nat) => AV.int k).filter (fun _ => true) = (List.range T.length).map fun (k : Nat) => AV.int k from List.filter_eq_self.mpr (fun _ _ => rfl), sizesOf, List.map_map, List.map_map, List.map_map]
      rfl
    rw [e]
    exact SJ.less hP (Sub.cons rfl (.cons rfl (.cons rfl (.cons rfl (.cons rfl (.cons rfl (.cons rfl (.cons rfl (.cons rfl (.cons rfl (.cons rfl (.cons rfl .nil))))))))))))
end
end PL

namespace PL
theorem nodup_inj {α : Type} {l : List α} (nd : l.Nodup) {i j : Nat} (hi : i < l.length) (hj : j < l.length) (e : l[i] = l[j]) : i = j := by
  have h := List.pairwise_iff_getElem.mp nd
  rcases Nat.lt_trichotomy i j with q | q | q
  · exact absurd e (h i j hi hj q)
  · exact q
  · exact absurd e.symm (h j i hj hi q)
theorem getD_some {l : List Nat} {d : Nat} (hd : d < l.length) : l[d]? = some (l.getD d 0) := by
  rw [List.getD_eq_getElem?_getD, List.getElem?_eq_getElem hd]; rfl
/-- the place of a sign among the signs -/
theorem idx_occ {letters : Str} {d : Nat} (nd : letters.cps.toList.Nodup) (hd : d < letters.cps.toList.length) :
    ∃ r, Builtin.Str.occurrences letters ⟨#[letters.cps.toList.getD d 0]⟩ 0 letters.length 1 = d :: r := by
  have hg : letters.cps.toList[d]? = some (letters.cps.toList.getD d 0) := getD_some hd
  rcases StrLaws.occ_head letters ⟨#[letters.cps.toList.getD d 0]⟩ 1 (Nat.le_refl _) with ⟨_, hn⟩ | ⟨i, r, e, ha, _⟩
  · exact absurd ((StrLaws.subAt_one letters _ d).mpr hg) (hn d)
  · have h2 := (StrLaws.subAt_one letters _ i).mp ha
    have hi : i < letters.cps.toList.length := (List.getElem?_eq_some_iff.mp h2).1
    have : i = d := by
      rw [List.getElem?_eq_getElem hi] at h2
      rw [List.getElem?_eq_getElem hd] at hg
      have e2 : letters.cps.toList[i] = letters.cps.toList[d] := by rw [Option.some.inj h2, Option.some.inj hg]
      exact nodup_inj nd hi hd e2
    exact ⟨r, by rw [e, this]⟩
theorem hand_nd (n : Int) : (handOf n).letters.cps.toList.Nodup := by
  unfold handOf
  split; · decide
  split; · decide
  split; · decide
  split <;> decide
theorem hand_sp (n : Int) : (handOf n).spelled.length = (handOf n).letters.length := by
  unfold handOf
  split; · decide
  split; · decide
  split; · decide
  split <;> decide
end PL

namespace PL
theorem capOk2 {env : Env} {scope : Scope} {cl : List (Str × Addr)} {ρ : Vars} {a b : Str} {u v : AV}
    (ha : ρ.lookup a = some u ∧ (env.kindOf a = some .cell ∨ env.kindOf a = some .free) ∧ (((relabel scope env).names.lookup a = some .cell ∨ (relabel scope env).names.lookup a = some .free)) ∧ cl.lookup a = env.cells.lookup a)
    (hb : ρ.lookup b = some v ∧ (env.kindOf b = some .cell ∨ env.kindOf b = some .free) ∧ (((relabel scope env).names.lookup b = some .cell ∨ (relabel scope env).names.lookup b = some .free)) ∧ cl.lookup b = env.cells.lookup b) :
    CapOk env scope cl ρ [(a, u), (b, v)] := ⟨fun y w e => by
  rw [lookup_cons_if] at e
  by_cases q : y = a
  · subst q; rw [if_pos rfl] at e; cases e; exact ha
  · rw [if_neg q, lookup_cons_if] at e
    by_cases q : y = b
    · subst q; rw [if_pos rfl] at e; cases e; exact hb
    · rw [if_neg q] at e; cases e⟩
theorem capOk1 {env : Env} {scope : Scope} {cl : List (Str × Addr)} {ρ : Vars} {a : Str} {u : AV}
    (ha : ρ.lookup a = some u ∧ (env.kindOf a = some .cell ∨ env.kindOf a = some .free) ∧ (((relabel scope env).names.lookup a = some .cell ∨ (relabel scope env).names.lookup a = some .free)) ∧ cl.lookup a = env.cells.lookup a) :
    CapOk env scope cl ρ [(a, u)] := ⟨fun y w e => by
  rw [lookup_cons_if] at e
  by_cases q : y = a
  · subst q; rw [if_pos rfl] at e; cases e; exact ha
  · rw [if_neg q] at e; cases e⟩
theorem capOk3 {env : Env} {scope : Scope} {cl : List (Str × Addr)} {ρ : Vars} {a b c : Str} {u v w : AV}
    (ha : ρ.lookup a = some u ∧ (env.kindOf a = some .cell ∨ env.kindOf a = some .free) ∧ (((relabel scope env).names.lookup a = some .cell ∨ (relabel scope env).names.lookup a = some .free)) ∧ cl.lookup a = env.cells.lookup a)
    (hb : ρ.lookup b = some v ∧ (env.kindOf b = some .cell ∨ env.kindOf b = some .free) ∧ (((relabel scope env).names.lookup b = some .cell ∨ (relabel scope env).names.lookup b = some .free)) ∧ cl.lookup b = env.cells.lookup b)
    (hc : ρ.lookup c = some w ∧ (env.kindOf c = some .cell ∨ env.kindOf c = some .free) ∧ (((relabel scope env).names.lookup c = some .cell ∨ (relabel scope env).names.lookup c = some .free)) ∧ cl.lookup c = env.cells.lookup c) :
    CapOk env scope cl ρ [(a, u), (b, v), (c, w)] := ⟨fun y x e => by
  rw [lookup_cons_if] at e
  by_cases q : y = a
  · subst q; rw [if_pos rfl] at e; cases e; exact ha
  · rw [if_neg q] at e
    exact (capOk2 hb hc).cap y x e⟩

/-- the place of a sign among these -/
def idxA (L : List Nat) : AV → Nat
  | .str s => L.idxOf (s.cps.toList.headD 0)
  | _ => 0
theorem idxA_eq {L : List Nat} (nd : L.Nodup) {d : Nat} (hd : d < L.length) : idxA L (.str ⟨#[L.getD d 0]⟩) = d := by
  show L.idxOf (L.getD d 0) = d
  have hm : L.getD d 0 ∈ L := by
    rw [List.getD_eq_getElem?_getD, List.getElem?_eq_getElem hd]; exact List.getElem_mem hd
  have hlt := List.idxOf_lt_length_of_mem hm
  have h1 : L[L.idxOf (L.getD d 0)] = L.getD d 0 := List.getElem_idxOf hlt
  have h2 : L.getD d 0 = L[d] := by rw [List.getD_eq_getElem?_getD, List.getElem?_eq_getElem hd]; rfl
  exact nodup_inj nd hlt hd (h1.trans h2)
/-- the signs of a text, each by what its place gives -/
theorem signs_eq {L ds : List Nat} (nd : L.Nodup) (hd : ∀ d ∈ ds, d < L.length) (f : Nat → AV) :
    (((sOf (ds.map (L.getD · 0))).cps.toList.map fun c => AV.str ⟨#[c]⟩).filter fun _ => true).map (fun x => f (idxA L x)) = ds.map f := by
  rw [List.filter_eq_self.mpr (fun _ _ => rfl), sOf_list, List.map_map, List.map_map]
  refine List.map_congr_left fun d h => ?_
  show f (idxA L (.str ⟨#[L.getD d 0]⟩)) = f d
  rw [idxA_eq nd (hd d h)]
theorem sign_mem {L ds : List Nat} (hd : ∀ d ∈ ds, d < L.length) {it : AV} (h : it ∈ (sOf (ds.map (L.getD · 0))).cps.toList.map fun c => AV.str ⟨#[c]⟩) : ∃ d, d < L.length ∧ it = .str ⟨#[L.getD d 0]⟩ := by
  rw [sOf_list, List.map_map] at h
  obtain ⟨d, h1, rfl⟩ := List.mem_map.mp h
  exact ⟨d, hd d h1, rfl⟩
theorem hand_spl (n : Int) : ∀ k, ((handOf n).spelled.getD k "").length ≤ 6 := by
  have all : ∀ xs : List Str, (xs.all fun x => x.length ≤ 6) = true → ∀ k, (xs.getD k "").length ≤ 6 := fun xs h k => by
    rw [List.getD_eq_getElem?_getD]
    by_cases q : k < xs.length
    · rw [List.getElem?_eq_getElem q]
      exact of_decide_eq_true (List.all_eq_true.mp h _ (List.getElem_mem q))
    · rw [List.getElem?_eq_none (by omega)]; decide
  unfold handOf
  split; · exact all _ (by decide)
  split; · exact all _ (by decide)
  split; · exact all _ (by decide)
  split <;> exact all _ (by decide)
theorem sum_le {α : Type} (f : α → Nat) (m : Nat) : ∀ (xs : List α), (∀ x ∈ xs, f x ≤ m) → (xs.map f).sum ≤ m * xs.length
  | [], _ => Nat.le_refl _
  | x :: xs, h => by
    have := sum_le f m xs fun y hy => h y (.tail _ hy)
    have h0 := h x (.head _)
    rw [List.map_cons, List.sum_cons, List.length_cons, Nat.mul_add, Nat.mul_one]
    omega

section
variable {G : Gl} {K : Frag} {A : Around} (g : GlOk G K) (kf : KFacts K) (gf : GFacts G) (q : QnF K)
include g kf gf q

/-- what the hand writes is told sign by sign -/
theorem w_law_told {L : Addr} (hr : Room 6 A) {c0 c1 c2 : Int} {T : Str} {ds : List Nat} {n p l : List AV} {ns : List Int} (hT : TextOf (handOf c0).letters.cps.toList T ds) (hl : ds.length ≤ 12)
    (hh : handFn (handOf c0).f T = Txt.join "" (ds.map ((handOf c0).spelled.getD · ""))) {P : Out → Prop} {rest : List Stmt}
    (hP : SJ G A (lawX L) (lawV c0 c1 c2 T n p l ns) [] (execs rest (lawX L).env) P) :
    SJ G A (lawX L) (lawV c0 c1 c2 T n p l ns) [] (execs ((fB 30).getD 5 (.Pass ⟨0, 0, 0, 0⟩) :: rest) (lawX L).env) P := by
  have hhd := hr.handled
  obtain ⟨hT, hdom⟩ := hT
  have hTl : T.length = ds.length := by rw [hT, sOf_len, List.length_map]
  have nd := hand_nd c0
  have hsp := hand_sp c0
  have hLl : (handOf c0).letters.cps.toList.length = (handOf c0).letters.length := by simp [Str.length]
  subst hT
  have hcomp := fun (x : Nat) => (sum_le Str.length 6 (ds.map ((handOf c0).spelled.getD · "")) (fun x hx => by obtain ⟨d, _, rfl⟩ := List.mem_map.mp hx; exact hand_spl c0 d))
  have hj : JoinOk "" (ds.map ((handOf c0).spelled.getD · "")) = true := joinOk_of_weight (by have h6 := hcomp 0; rw [List.length_map] at h6 ⊢; exact Nat.le_trans (Nat.add_le_add_right h6 _) (by omega)) (by decide)
  refine S_cons (S_if (TJ_pt (PT_cmp (PE_of (PW_callK g (PE_name rfl) (hand_ok g kf gf q c0).keep (PS_cons (PE_name rfl) PS_nil) ((hand_ok g kf gf q c0).call _ (hr.le (by omega)) _ (by rw [hTl]; omega))))
    (PE_of (PW_meth PE_str m_join (PS_cons (PE.conv (PE_comp (caps := [("spelled", aStrs (handOf c0).spelled), ("letters", .str (handOf c0).letters)]) (fun _ => true) (fun x => .str ((handOf c0).spelled.getD (idxA (handOf c0).letters.cps.toList x) ""))
      (PE_name rfl) (iter_str hhd) (by rw [List.length_map]; show Str.length _ ≤ _; omega) (fun it h => ?_) (fun it h _ => rfl) rfl (by decide) rfl (by decide) rfl (capOk2 ⟨rfl, .inl rfl, .inl rfl, rfl⟩ ⟨rfl, .inl rfl, .inl rfl, rfl⟩) (fun C it h => PW_tests0) (fun C it h _ => ?_)) ?_) PS_nil) (c_join hj))) cmp_nes)) (fun h => ?_) fun _ => S_nil hP)
  · obtain ⟨d, _, rfl⟩ := sign_mem hdom h; rfl
  · obtain ⟨d, hd, rfl⟩ := sign_mem hdom h
    rw [idxA_eq nd hd]
    obtain ⟨r, ho⟩ := idx_occ nd hd
    have hd2 : d < (handOf c0).spelled.length := by rw [hsp, ← hLl]; exact hd
    refine PE_itemL (k := (d : Int)) (PE_name rfl) (PE_of (PW_meth (PE_name rfl) m_sindex (PS_cons (PE_name rfl) PS_nil) (c_sindex ho))) (by omega) (by have := (hand_len c0).2; omega) ?_
    rw [Int.toNat_natCast, List.getElem?_map, List.getElem?_eq_getElem hd2, List.getD_eq_getElem?_getD, List.getElem?_eq_getElem hd2]; rfl
  · rw [signs_eq nd hdom fun d => .str ((handOf c0).spelled.getD d ""), aStrs, List.map_map]; rfl
  · rw [hh] at h; simp at h
end
end PL

namespace PL
abbrev zs (xs : List Nat) : List Int := xs.map fun (k : Nat) => (k : Int)
abbrev lawW (c0 c1 c2 : Int) (T : Str) (n p l : List AV) (ns : List Int) (pl tl : List Nat) (ds : List Nat) : Vars :=
  ("numbers", aInts (nums ds)) :: ("turned", aInts (zs tl)) :: ("plain", aInts (zs pl)) :: lawV c0 c1 c2 T n p l ns

section
variable {G : Gl} {K : Frag} {A : Around} (g : GlOk G K) (kf : KFacts K) (gf : GFacts G) (q : QnF K)
include g kf gf q

theorem w_law_numbers {L : Addr} (hr : Room 6 A) {c0 c1 c2 : Int} {T : Str} {ds : List Nat} {n p l : List AV} {ns : List Int} {pl tl : List Nat} (hT : TextOf (handOf c0).letters.cps.toList T ds) (hl : ds.length ≤ 12) {P : Out → Prop} {rest : List Stmt}
    (hP : SJ G A (lawX L) (lawW c0 c1 c2 T n p l ns pl tl ds) [] (execs rest (lawX L).env) P) :
    SJ G A (lawX L) (("turned", aInts (zs tl)) :: ("plain", aInts (zs pl)) :: lawV c0 c1 c2 T n p l ns) [] (execs ((fB 30).getD 9 (.Pass ⟨0, 0, 0, 0⟩) :: rest) (lawX L).env) P := by
  have hhd := hr.handled
  obtain ⟨hT, hdom⟩ := hT
  have hTl : T.length = ds.length := by rw [hT, sOf_len, List.length_map]
  have nd := hand_nd c0
  subst hT
  have he : AV.list (ds.map fun d => .int (numOf d)) = aInts (nums ds) := by rw [aInts, nums, List.map_map]; rfl
  refine S_cons (S_assign (lawSto rfl (by decide)) (EJ_pure (PE.conv (PE_comp (caps := [("letters", .str (handOf c0).letters)]) (fun _ => true) (fun x => .int (numOf (idxA (handOf c0).letters.cps.toList x)))
      (PE_name rfl) (iter_str hhd) (by rw [List.length_map]; show Str.length _ ≤ _; omega) (fun it h => ?_) (fun it h _ => rfl) rfl (by decide) rfl (by decide) rfl (capOk1 ⟨rfl, .inl rfl, .inl rfl, rfl⟩) (fun C it h => PW_tests0) (fun C it h _ => ?_))
      ((congrArg AV.list (signs_eq nd hdom fun d => .int (numOf d))).trans he))
    (SJ.less hP (Sub.cons rfl (.cons rfl (.cons rfl (.cons rfl (.cons rfl (.cons rfl (.cons rfl (.cons rfl (.cons rfl (.cons rfl (.cons rfl (.cons rfl (.cons rfl .nil))))))))))))))))
  · obtain ⟨d, _, rfl⟩ := sign_mem hdom h; rfl
  · obtain ⟨d, hd, rfl⟩ := sign_mem hdom h
    rw [idxA_eq nd hd]
    obtain ⟨r, ho⟩ := idx_occ nd hd
    exact PE_sub PE_int (PE_of (PW_meth (PE_name rfl) m_sindex (PS_cons (PE_name rfl) PS_nil) (c_sindex ho)))

/-- the sizes up to what is left: the last of them -/
theorem w_last {L : Addr} (hr : Room 6 A) {T : Str} {ρ : Vars} {f : Nat} (hT : T.length ≤ 12)
    {nm : Str} {zsl : List Nat} (hzl : zsl.length ≤ 12) (hz : ρ.lookup nm = some (aInts (zs zsl))) (ht : ρ.lookup ("text" : Str) = some (.str T)) (hf : ρ.lookup ("first" : Str) = some (.int f)) {s : Nat} (hs : (zsl.filter fun k => decide (k + f ≤ T.length)).getLast? = some s)
    {pz p1 p2 p3 p4 p5 p6 p7 p8 p9 p10 p11 p12 p13 : Pos} {k1 : Nat} {scope : Scope} {cl : List (Str × Addr)}
    (hclos : closureFor scope (lawX L).env = pure cl) (hcell : ∀ y ∈ scope.names, y.2 ≠ .cell) (hkind : scope.kind = .function)
    (hnames : ∀ y ∈ scope.names, y.2 = .local → scope.names.lookup y.1 = some .local) (hx : scope.names.lookup ("size" : Str) = some .local)
    (h1 : ((lawX L).env.kindOf ("text" : Str) = some .cell ∨ (lawX L).env.kindOf ("text" : Str) = some .free) ∧ (((relabel scope (lawX L).env).names.lookup ("text" : Str) = some .cell ∨ (relabel scope (lawX L).env).names.lookup ("text" : Str) = some .free)) ∧ cl.lookup ("text" : Str) = (lawX L).env.cells.lookup ("text" : Str))
    (h2 : ((lawX L).env.kindOf ("first" : Str) = some .cell ∨ (lawX L).env.kindOf ("first" : Str) = some .free) ∧ (((relabel scope (lawX L).env).names.lookup ("first" : Str) = some .cell ∨ (relabel scope (lawX L).env).names.lookup ("first" : Str) = some .free)) ∧ cl.lookup ("first" : Str) = (lawX L).env.cells.lookup ("first" : Str))
    (hlen : (relabel scope (lawX L).env).names.lookup ("len" : Str) = some .globalImplicit) (hd : (nm == ("__debug__" : Str)) = false) (hc : (nm == ("__classdict__" : Str)) = false)
    (hfold : ∀ x, foldedSetIterable (.Name nm pz) (lawX L).env x = pure x := by intro _; rfl) :
    PE G A (lawX L).env ρ (.Subscript (.ListComp (.Name "size" p1) [⟨.Name "size" p2, .Name nm pz, [.Compare (.Name "size" p3) [.LtE] [.BinOp (.Call (.Name "len" p4) [.Name "text" p5] [] p6) .Sub (.Name "first" p7) p8] p9], 0⟩] scope p10) (.UnaryOp .USub (.Constant (.int 1) k1 p11) p12) p13) (.int s) := by
  have hhd := hr.handled
  have e : (((zs zsl).map AV.int).filter fun x => match x with | .int v => decide (v ≤ (T.length : Int) - f) | _ => false).map id = ((zsl.filter fun k => decide (k + f ≤ T.length)).map fun (k : Nat) => AV.int (k : Int)) := by
    rw [List.map_id]
    clear hs hz hzl
    induction zsl with
    | nil => rfl
    | cons k r ih =>
      rw [zs, List.map_cons, List.map_cons]
      by_cases b : k + f ≤ T.length
      · rw [List.filter_cons_of_pos (by simp; omega), List.filter_cons_of_pos (by simp [b]), List.map_cons, ← ih]
      · rw [List.filter_cons_of_neg (by simp; omega), List.filter_cons_of_neg (by simp [b]), ← ih]
  have hne : (zsl.filter fun k => decide (k + f ≤ T.length)) ≠ [] := by intro h; rw [h] at hs; cases hs
  have hpos := List.length_pos_iff.mpr hne
  have hle := List.length_filter_le (fun k => decide (k + f ≤ T.length)) zsl
  refine PE_itemLneg (x := .int s) (k := -1) (PE.conv (PE_comp (src := .list ((zs zsl).map AV.int)) (caps := [("text", .str T), ("first", .int f)]) (fun x => match x with | .int v => decide (v ≤ (T.length : Int) - f) | _ => false) id
      (PE_name hz hd hc) (iter_list hhd) (by rw [List.length_map, List.length_map]; omega) (fun it h => ?_) (fun it h _ => ?_) hclos hcell hkind hnames hx (capOk2 ⟨ht, h1⟩ ⟨hf, h2⟩) (fun C it h => ?_) (fun C it h _ => ?_) hfold) (congrArg AV.list e)) (PE_neg PE_int) (by decide) (by rw [List.length_map]; omega) (by decide) ?_
  · obtain ⟨k, _, rfl⟩ := List.mem_map.mp h; rfl
  · obtain ⟨k, _, rfl⟩ := List.mem_map.mp h; rfl
  · obtain ⟨k, _, rfl⟩ := List.mem_map.mp h
    exact PW_tests1 (PT_cmp (PE_name rfl) (PE_sub (PW_callB (PE_glob gf.g_len hlen) (PS_cons (PE_name rfl) PS_nil) (c_lenS (by omega))) (PE_name rfl)) cmp_le)
  · obtain ⟨k, _, rfl⟩ := List.mem_map.mp h
    exact PE_name rfl
  · rw [List.length_map, show (-1 + (((zsl.filter fun k => decide (k + f ≤ T.length)).length : Nat) : Int)).toNat = (zsl.filter fun k => decide (k + f ≤ T.length)).length - 1 by omega, List.getElem?_map, ← List.getLast?_eq_getElem?, hs]
    rfl
end
end PL

namespace PL
/-- the critical places tell the least periods -/
structure CritOk (T : Str) (ds pl tl : List Nat) : Prop where
  at_ : ∀ f, f < T.length → ∃ one other gap rest, one ≤ T.length ∧ other ≤ T.length ∧ (pl.filter fun k => decide (k + f ≤ T.length)).getLast? = some one ∧ (tl.filter fun k => decide (k + f ≤ T.length)).getLast? = some other ∧
    periods (suf T f) = gap :: rest ∧ ∀ g, Seen (nums ds) f (T.length - min one other) g → g = gap
/-- the periods are the sizes that make the text again -/
def AgainOk (T : Str) (L : List Nat) (ds : List Nat) : Prop := ∀ s, 1 ≤ s → s ≤ T.length → decide (pick L (written ds s) = T) = perB T s

section
variable {G : Gl} {K : Frag} {A : Around} (g : GlOk G K) (kf : KFacts K) (gf : GFacts G) (q : QnF K)
include g kf gf q

theorem w_law_crit {L : Addr} (hr : Room 6 A) {c0 c1 c2 : Int} {T : Str} {ds : List Nat} {n p l : List AV} {ns : List Int} {pl tl : List Nat} (hT : T.length ≤ 12) (hd : ds.length = T.length) (hpl : pl.length ≤ 12) (htl : tl.length ≤ 12) (cr : CritOk T ds pl tl) {P : Out → Prop} {rest : List Stmt}
    (hP : SJ G A (lawX L) (lawW c0 c1 c2 T n p l ns pl tl ds) [] (execs rest (lawX L).env) P) :
    SJ G A (lawX L) (lawW c0 c1 c2 T n p l ns pl tl ds) [] (execs ((fB 30).getD 10 (.Pass ⟨0, 0, 0, 0⟩) :: rest) (lawX L).env) P := by
  have hh := hr.handled
  refine S_cons (S_forN (x := "first") (fun i ρ σ => σ = [] ∧ ρ = lawW c0 c1 c2 T n p l ns pl tl ds)
    (PW_callT (PE_glob gf.g_range rfl) (PS_cons (PW_callB (PE_glob gf.g_len rfl) (PS_cons (PE_name rfl) PS_nil) (c_lenS (by omega))) PS_nil) c_range1) (iter_up hh (by omega)) (lawSto rfl (by decide)) ⟨_, ⟨rfl, rfl⟩, Sub.refl⟩ ?_ ?_)
  · rintro f it ρ1 σ1 hget ⟨rfl, rfl⟩
    obtain ⟨hf, rfl⟩ := range_up hget
    obtain ⟨one, other, gap, rs, l1, l2, h1, h2, h3, h4⟩ := cr.at_ f hf
    refine S_cons (S_assign (.loc rfl) (EJ_pure (w_last g kf gf q hr hT hpl (nm := "plain") (f := f) rfl rfl rfl h1 rfl (by decide) rfl (by decide) rfl ⟨.inl rfl, .inl rfl, rfl⟩ ⟨.inl rfl, .inl rfl, rfl⟩ rfl rfl rfl (by intro _; rfl)) ?_))
    refine S_cons (S_assign (.loc rfl) (EJ_pure (w_last g kf gf q hr hT htl (nm := "turned") (f := f) rfl rfl rfl h2 rfl (by decide) rfl (by decide) rfl ⟨.inl rfl, .inl rfl, rfl⟩ ⟨.inl rfl, .inl rfl, rfl⟩ rfl rfl rfl (by intro _; rfl)) ?_))
    refine S_cons (S_assign (.loc rfl) (EJ_pure (PE.ci (PE_sub (PW_callB (PE_glob gf.g_len rfl) (PS_cons (PE_name rfl) PS_nil) (c_lenS (by omega))) (PW_callB (PE_glob gf.g_min rfl) (PS_cons (PE_name rfl) (PS_cons (PE_name rfl) PS_nil)) (c_min hh))) (by omega : (T.length : Int) - min (one : Int) (other : Int) = ((T.length - min one other : Nat) : Int))) ?_))
    have seen : COk G A (.ref 247) [aInts (nums ds), .int f, .int (T.length - min one other : Nat)] fun Z v => VR Z (.int gap) v := fun Z s E vs z i h =>
      wpAny_mono (w_seen g kf gf (A := A) (hr.le (by omega)) (ns := nums ds) (F := f) (C := T.length - min one other) (by rw [nums_len]; omega) (by omega) (by omega) Z s E vs z i h) (fun v s' p => by
        obtain ⟨k, Z', g', y, hy, gp, rfl, hs⟩ := p
        rw [h4 gp hs] at hy
        exact ⟨k, Z', g', hy⟩) fun _ _ e => e
    refine S_cons (S_if (TJ_pt (PT_cmp (PE_of (PW_callK g (PE_glob gf.g_law_seen rfl) kf.F_law_seen.keep (PS_cons (PE_name rfl) (PS_cons (PE_name rfl) (PS_cons (PE_name rfl) PS_nil))) seen))
      (PE_itemL (x := .int gap) (k := 0) (PE_of (PW_callK g (PE_glob gf.g_law_periods rfl) kf.F_law_periods.keep (PS_cons (PE_sliceS (PE_name rfl) (PPart_some (PE_name rfl) rfl) PPart_none (by omega)) PS_nil) (w_periods g kf gf (hr.le (by omega)) (by rw [suf_len]; omega)))) PE_int (by decide) (by decide) (by rw [h3]; rfl)) cmp_ne)) (fun h => ?_) fun _ => S_nil (S_nil ?_))
    · simp at h
    · exact ⟨_, ⟨rfl, rfl⟩, Sub.cons rfl (.cons rfl (.cons rfl (.cons rfl (.cons rfl (.cons rfl (.cons rfl (.cons rfl (.cons rfl (.cons rfl (.cons rfl (.cons rfl (.cons rfl .nil))))))))))))⟩
  · rintro ρ1 σ1 ⟨rfl, rfl⟩ ρ2 hs
    exact SJ.less hP hs

theorem w_law_sizes {L : Addr} (hr : Room 6 A) {c0 c1 c2 : Int} {T : Str} {ds : List Nat} {n p l : List AV} {ns : List Int} {pl tl : List Nat} (hT : TextOf (handOf c0).letters.cps.toList T ds) (hl : ds.length ≤ 12) (ag : AgainOk T (handOf c0).letters.cps.toList ds) {P : Out → Prop}
    (hP : P (.ret (.bool true) [])) :
    SJ G A (lawX L) (lawW c0 c1 c2 T n p l ns pl tl ds) [] (execs ((fB 30).drop 11) (lawX L).env) P := by
  have hh := hr.handled
  obtain ⟨hT, hdom⟩ := hT
  have hTl : T.length = ds.length := by rw [hT, sOf_len, List.length_map]
  have hLl : (handOf c0).letters.cps.toList.length = (handOf c0).letters.length := by simp [Str.length]
  have mem : ∀ it, it ∈ (List.range ((T.length : Int) + 1 - 1).toNat).map (fun (k : Nat) => AV.int (1 + k)) → ∃ k : Nat, k < T.length ∧ it = .int ((1 + k : Nat) : Int) := fun it h => by
    obtain ⟨k, hk, rfl⟩ := List.mem_map.mp h
    exact ⟨k, by have := List.mem_range.mp hk; omega, by rw [Int.natCast_add]; rfl⟩
  refine S_cons (S_assignComp (caps := [("numbers", aInts (nums ds)), ("letters", .str (handOf c0).letters), ("text", .str T)]) (fun x => match x with | .int v => perB T v.toNat | _ => false) id rfl
      (PW_callT (PE_glob gf.g_range rfl) (PS_cons PE_int (PS_cons (PE_add (PW_callB (PE_glob gf.g_len rfl) (PS_cons (PE_name rfl) PS_nil) (c_lenS (by omega))) PE_int) PS_nil)) c_range2)
      (iter_ab hh (by omega) (by omega) (by omega) (by omega)) (by simp; omega) (fun it h => ?_) (fun it h _ => ?_) rfl (by decide) rfl (by decide) rfl (capOk3 ⟨rfl, .inl rfl, .inl rfl, rfl⟩ ⟨rfl, .inl rfl, .inl rfl, rfl⟩ ⟨rfl, .inl rfl, .inl rfl, rfl⟩) (fun C it h => ?_) (fun C it h _ => ?_) ?_)
  · obtain ⟨k, _, rfl⟩ := mem it h; rfl
  · obtain ⟨k, _, rfl⟩ := mem it h; rfl
  · obtain ⟨k, hk, rfl⟩ := mem it h
    have e : perB T ((1 + k : Nat) : Int).toNat = decide (pick (handOf c0).letters.cps.toList (written ds (1 + k)) = T) := by rw [Int.toNat_natCast, ag (1 + k) (by omega) (by omega)]
    show PW _ _ _ _ _ fun _ b => b = perB T ((1 + k : Nat) : Int).toNat
    rw [e]
    exact PW_tests1 (PT_cmp (PE_of (PW_callK g (PE_glob gf.g_law_written rfl) kf.F_law_written.keep (PS_cons (PE_name rfl) (PS_cons (PE_name rfl) (PS_cons (PE_name rfl) PS_nil))) (w_written g kf gf (hr.le (by omega)) (hand_len c0).2 (by omega) (by omega) (by omega) (fun d h => by rw [← hLl]; exact hdom d h)))) (PE_name rfl) cmp_eqs)
  · obtain ⟨k, hk, rfl⟩ := mem it h
    exact PE_name rfl
  · have e : (((List.range ((T.length : Int) + 1 - 1).toNat).map fun (k : Nat) => AV.int (1 + k)).filter fun x => match x with | .int v => perB T v.toNat | _ => false).map id = (zs (periods T)).map AV.int := by
      unfold periods
      rw [show ((T.length : Int) + 1 - 1).toNat = T.length by omega, List.map_id]
      generalize List.range T.length = r
      induction r with
      | nil => rfl
      | cons k r ih =>
        have e : perB T (1 + (k : Int)).toNat = perB T (1 + k) := by rw [show (1 + (k : Int)).toNat = 1 + k by omega]
        rw [List.map_cons, List.map_cons]
        cases hb : perB T (1 + k) with
        | true =>
          rw [List.filter_cons_of_pos (by show perB T (1 + (k : Int)).toNat = true; rw [e, hb]), List.filter_cons_of_pos hb, ih]; rfl
        | false =>
          rw [List.filter_cons_of_neg (by show ¬ perB T (1 + (k : Int)).toNat = true; rw [e, hb]; decide), List.filter_cons_of_neg (by rw [hb]; decide), ih]
    rw [e]
    refine S_cons (S_ret (EJ_pure (PE_cmp (x := aInts (zs (periods T))) (y := aInts (zs (periods T))) (PE_name rfl) (PE_of (PW_callK g (PE_glob gf.g_law_periods rfl) kf.F_law_periods.keep (PS_cons (PE_name rfl) PS_nil) (w_periods g kf gf (hr.le (by omega)) (by omega)))) (cmp_eqI (by have := hr.units; omega))) ?_))
    rw [decide_eq_true rfl]
    exact hP
end
end PL

namespace PL
/-- signs by an order; the end is less than any sign -/
def Ro (r : Nat → Nat → Bool) : Option Nat → Option Nat → Prop
  | none, some _ => True
  | some x, some y => r x y = true ∧ x ≠ y
  | _, none => False
theorem Ro.irrefl {r : Nat → Nat → Bool} : ∀ {x : Option Nat}, ¬ Ro r x x
  | none, h => h
  | some _, h => h.2 rfl
structure OrdB (r : Nat → Nat → Bool) : Prop where
  asymm : ∀ x y, r x y = true → r y x = true → False
  total : ∀ x y, x ≠ y → r x y = true ∨ r y x = true
  trans : ∀ x y z, r x y = true → r y z = true → r x z = true
theorem Ro.asymm {r : Nat → Nat → Bool} (o : OrdB r) : ∀ {x y : Option Nat}, Ro r x y → Ro r y x → False
  | none, none, h, _ => h
  | none, some _, _, h => h
  | some _, none, h, _ => h
  | some _, some _, h, k => o.asymm _ _ h.1 k.1

/-- where two rests part first -/
def Less (r : Nat → Nat → Bool) (a : Nat → Option Nat) (i j : Nat) : Prop := ∃ k, (∀ l, l < k → a (i + l) = a (j + l)) ∧ Ro r (a (i + k)) (a (j + k))
theorem Less.asymm {r : Nat → Nat → Bool} (o : OrdB r) {a : Nat → Option Nat} {i j : Nat} (h : Less r a i j) (h2 : Less r a j i) : False := by
  obtain ⟨k, e, x⟩ := h
  obtain ⟨k2, e2, x2⟩ := h2
  rcases Nat.lt_trichotomy k k2 with q | q | q
  · rw [e2 k q] at x; exact Ro.irrefl x
  · subst q; exact Ro.asymm o x x2
  · rw [e k2 q] at x2; exact Ro.irrefl x2

/-- alike around a cut -/
def Alike (a : Nat → Option Nat) (n F C g : Nat) : Prop := ∀ k, max F (C - g) ≤ k → k < min C (n - g) → a (k + g) = a k

/-- the shorter of the two greatest rests starts at a critical place (Crochemore, Perrin) -/
theorem critical {r1 r2 : Nat → Nat → Bool} (o1 : OrdB r1) (o2 : OrdB r2) (opp : ∀ x y, r1 x y = true → r2 x y = true → False) {a : Nat → Option Nat} {n F C C2 g : Nat}
    (hn : ∀ i, a i = none ↔ n ≤ i) (h1 : F ≤ C2) (h2 : C2 ≤ C) (h3 : C < n) (hg : 1 ≤ g)
    (m1 : ∀ i, F ≤ i → i < n → i ≠ C → Less r1 a i C) (m2 : ∀ i, F ≤ i → i < n → i ≠ C2 → Less r2 a i C2)
    (hal : Alike a n F C g) : ∀ k, F ≤ k → k + g < n → a (k + g) = a k := by
  by_cases hA : g ≤ C - F
  · exfalso
    have hl := m1 (C - g) (by omega) (by omega) (by omega)
    refine Less.asymm o1 hl ?_
    by_cases hs : n ≤ C + g
    · refine ⟨n - C, fun l hl => ?_, ?_⟩
      · have := hal (C - g + l) (by omega) (by omega)
        rw [show C - g + l + g = C + l by omega] at this
        exact this
      · rw [(hn (C + (n - C))).mpr (by omega)]
        cases e : a (C - g + (n - C)) with
        | none => have := (hn _).mp e; omega
        | some x => trivial
    · obtain ⟨k, e, x⟩ := m1 (C + g) (by omega) (by omega) (by omega)
      refine ⟨g + k, fun l hl => ?_, ?_⟩
      · by_cases q : l < g
        · have := hal (C - g + l) (by omega) (by omega)
          rw [show C - g + l + g = C + l by omega] at this
          exact this
        · have := e (l - g) (by omega)
          rw [show C + g + (l - g) = C + l by omega] at this
          rw [this, show C - g + l = C + (l - g) by omega]
      · rw [show C + (g + k) = C + g + k by omega, show C - g + (g + k) = C + k by omega]
        exact x
  · intro k hk hkn
    by_cases hkC : k < C
    · exact hal k (by omega) (by omega)
    · obtain ⟨k1, e1, x1⟩ := m1 (C + g) (by omega) (by omega) (by omega)
      have l2 : Less r2 a (C + g) C := by
        obtain ⟨k2, e2, x2⟩ := m2 (C2 + g) (by omega) (by omega) (by omega)
        have pre : ∀ l, l < C - C2 → a (C2 + g + l) = a (C2 + l) := fun l hl => by
          have := hal (C2 + l) (by omega) (by omega)
          rw [show C2 + l + g = C2 + g + l by omega] at this
          exact this
        have hk2 : C - C2 ≤ k2 := by
          rcases Nat.lt_or_ge k2 (C - C2) with q | q
          · rw [pre k2 q] at x2; exact absurd x2 Ro.irrefl
          · exact q
        refine ⟨k2 - (C - C2), fun l hl => ?_, ?_⟩
        · have := e2 (C - C2 + l) (by omega)
          rw [show C2 + g + (C - C2 + l) = C + g + l by omega, show C2 + (C - C2 + l) = C + l by omega] at this
          exact this
        · rw [show C2 + g + k2 = C + g + (k2 - (C - C2)) by omega, show C2 + k2 = C + (k2 - (C - C2)) by omega] at x2
          exact x2
      obtain ⟨k2, e2, x2⟩ := l2
      have ek : k1 = k2 := by
        rcases Nat.lt_trichotomy k1 k2 with q | q | q
        · rw [e2 k1 q] at x1; exact absurd x1 Ro.irrefl
        · exact q
        · rw [e1 k2 q] at x2; exact absurd x2 Ro.irrefl
      subst ek
      have hend : n ≤ C + g + k1 := by
        rcases Nat.lt_or_ge (C + g + k1) n with q | q
        · exfalso
          cases ea : a (C + g + k1) with
          | none => have := (hn _).mp ea; omega
          | some x =>
            rw [ea] at x1 x2
            cases eb : a (C + k1) with
            | none => rw [eb] at x1; exact x1
            | some y => rw [eb] at x1 x2; exact opp _ _ x1.1 x2.1
        · exact q
      have := e1 (k - C) (by omega)
      rw [show C + g + (k - C) = k + g by omega, show C + (k - C) = k by omega] at this
      exact this

/-! orders of texts -/
def lexB (r : Nat → Nat → Bool) : List Nat → List Nat → Bool
  | _, [] => false
  | [], _ :: _ => true
  | x :: xs, y :: ys => if x = y then lexB r xs ys else r x y
theorem lexB_less {r : Nat → Nat → Bool} : ∀ {xs ys : List Nat}, lexB r xs ys = true → ∃ k : Nat, (∀ l : Nat, l < k → xs[l]? = ys[l]?) ∧ Ro r xs[k]? ys[k]?
  | _, [], h => by cases ‹List Nat› <;> cases h
  | [], y :: ys, _ => ⟨0, fun l h => absurd h (Nat.not_lt_zero _), trivial⟩
  | x :: xs, y :: ys, h => by
    unfold lexB at h
    by_cases q : x = y
    · rw [if_pos q] at h
      obtain ⟨k, e, w⟩ := lexB_less h
      refine ⟨k + 1, fun l hl => ?_, by simpa using w⟩
      cases l with
      | zero => simp [q]
      | succ l => simpa using e l (by omega)
    · rw [if_neg q] at h
      exact ⟨0, fun l h => absurd h (Nat.not_lt_zero _), by simpa using ⟨h, q⟩⟩
theorem lexB_irrefl {r : Nat → Nat → Bool} : ∀ xs, lexB r xs xs = false
  | [] => rfl
  | x :: xs => by unfold lexB; rw [if_pos rfl]; exact lexB_irrefl xs
theorem lexB_total {r : Nat → Nat → Bool} (o : OrdB r) : ∀ {xs ys : List Nat}, xs ≠ ys → lexB r xs ys = true ∨ lexB r ys xs = true
  | [], [], h => absurd rfl h
  | [], y :: ys, _ => .inl rfl
  | x :: xs, [], _ => .inr rfl
  | x :: xs, y :: ys, h => by
    unfold lexB
    by_cases q : x = y
    · rw [if_pos q, if_pos q.symm]
      exact lexB_total o fun e => h (by rw [q, e])
    · rw [if_neg q, if_neg (Ne.symm q)]
      exact o.total _ _ q
theorem lexB_trans {r : Nat → Nat → Bool} (o : OrdB r) : ∀ {xs ys zs : List Nat}, lexB r xs ys = true → lexB r ys zs = true → lexB r xs zs = true
  | xs, ys, [], _, k => by cases ys <;> cases k
  | [], ys, z :: zs, _, _ => rfl
  | x :: xs, [], z :: zs, h, _ => by cases h
  | x :: xs, y :: ys, z :: zs, h, k => by
    unfold lexB at h k ⊢
    by_cases q : x = y
    · subst q
      rw [if_pos rfl] at h
      by_cases q2 : x = z
      · rw [if_pos q2] at k ⊢; exact lexB_trans o h k
      · rw [if_neg q2] at k ⊢; exact k
    · rw [if_neg q] at h
      by_cases q2 : y = z
      · subst q2; rw [if_neg q]; exact h
      · rw [if_neg q2] at k
        by_cases q3 : x = z
        · subst q3; exact absurd k fun k => o.asymm _ _ h k
        · rw [if_neg q3]; exact o.trans _ _ _ h k
/-- a code whose beginnings tell the order keeps the order -/
theorem lex_code {r : Nat → Nat → Bool} {code : Nat → List Nat} {m : Nat} (hne : ∀ d, d < m → code d ≠ []) (hc : ∀ d e, d < m → e < m → d ≠ e → ∀ s t : List Nat, decide (code d ++ s < code e ++ t) = r d e) :
    ∀ {xs ys : List Nat}, (∀ d ∈ xs, d < m) → (∀ d ∈ ys, d < m) → decide (xs.flatMap code < ys.flatMap code) = lexB r xs ys
  | xs, [], _, _ => by
    have : lexB r xs [] = false := by cases xs <;> rfl
    rw [this]
    exact decide_eq_false (by simp)
  | [], y :: ys, _, hy => by
    show _ = true
    refine decide_eq_true ?_
    rw [List.flatMap_nil, List.flatMap_cons]
    cases e : code y with
    | nil => exact absurd e (hne y (hy y (.head _)))
    | cons c s => exact List.Lex.nil
  | x :: xs, y :: ys, hx, hy => by
    unfold lexB
    rw [List.flatMap_cons, List.flatMap_cons]
    by_cases q : x = y
    · subst q
      rw [if_pos rfl, ← lex_code hne hc (fun d h => hx d (.tail _ h)) (fun d h => hy d (.tail _ h))]
      have : ∀ s (u v : List Nat), (s ++ u < s ++ v) ↔ u < v := fun s u v => by
        induction s with
        | nil => exact Iff.rfl
        | cons c s ih => rw [List.cons_append, List.cons_append, List.cons_lt_cons_iff]; simp [ih]
      rw [decide_eq_decide]
      exact this _ _ _
    · rw [if_neg q]
      exact hc x y (hx x (.head _)) (hy y (.head _)) q _ _
end PL

namespace PL
theorem bs_part {p : Nat → Bool} {m : Nat} : ∀ (d lo hi : Nat), hi - lo ≤ d → lo ≤ m → m ≤ hi → (∀ i, lo ≤ i → i < m → p i = false) → (∀ i, m ≤ i → i < hi → p i = true) → bs p lo hi = m := by
  intro d
  induction d with
  | zero => intro lo hi hd h1 h2 _ _; rw [bs_ge (by omega)]; omega
  | succ d ih =>
    intro lo hi hd h1 h2 h3 h4
    by_cases q : lo < hi
    · rw [bs_lt q]
      by_cases b : (lo + hi) / 2 < m
      · rw [h3 _ (by omega) b, if_neg (by decide)]
        exact ih _ _ (by omega) (by omega) h2 (fun i a b => h3 i (by omega) b) h4
      · rw [h4 _ (by omega) (by omega), if_pos rfl]
        exact ih _ _ (by omega) h1 (by omega) h3 (fun i a b => h4 i a (by omega))
    · rw [bs_ge q]; omega

abbrev PosR (f : Str → Str) (xs : List AV) (x : Str) : Nat := bs (fun i => strLt x (f (bareA (xs.getD i .none)))) 0 xs.length
abbrev PosL (f : Str → Str) (xs : List AV) (x : Str) : Nat := bs (fun i => !strLt (f (bareA (xs.getD i .none))) x) 0 xs.length
theorem getD_l {xs ys : List AV} {i : Nat} (h : i < xs.length) : (xs ++ ys).getD i .none ∈ xs := by
  rw [List.getD_eq_getElem?_getD, List.getElem?_append_left h, List.getElem?_eq_getElem h]; exact List.getElem_mem h
theorem getD_r {xs ys : List AV} {i : Nat} (h : xs.length ≤ i) (h2 : i < (xs ++ ys).length) : (xs ++ ys).getD i .none ∈ ys := by
  have : i - xs.length < ys.length := by rw [List.length_append] at h2; omega
  rw [List.getD_eq_getElem?_getD, List.getElem?_append_right h, List.getElem?_eq_getElem this]; exact List.getElem_mem this
theorem posR_mid {f : Str → Str} {xs ys : List AV} {x : Str} (h1 : ∀ y ∈ xs, strLt x (f (bareA y)) = false) (h2 : ∀ y ∈ ys, strLt x (f (bareA y)) = true) : PosR f (xs ++ ys) x = xs.length :=
  bs_part _ _ _ (Nat.le_refl _) (Nat.zero_le _) (by rw [List.length_append]; omega) (fun i _ h => h1 _ (getD_l h)) fun i h k => h2 _ (getD_r h k)
theorem posL_mid {f : Str → Str} {xs ys : List AV} {x : Str} (h1 : ∀ y ∈ xs, strLt (f (bareA y)) x = true) (h2 : ∀ y ∈ ys, strLt (f (bareA y)) x = false) : PosL f (xs ++ ys) x = xs.length :=
  bs_part _ _ _ (Nat.le_refl _) (Nat.zero_le _) (by rw [List.length_append]; omega) (fun i _ h => by rw [h1 _ (getD_l h)]; rfl) fun i h k => by rw [h2 _ (getD_r h k)]; rfl

/-- an order of places -/
structure LtOk (lt : Nat → Nat → Bool) (N : Nat) : Prop where
  irrefl : ∀ p, lt p p = false
  trans : ∀ p q r, lt p q = true → lt q r = true → lt p r = true
  total : ∀ p q, p < N → q < N → p ≠ q → lt p q = true ∨ lt q p = true
theorem LtOk.asymm {lt : Nat → Nat → Bool} {N : Nat} (o : LtOk lt N) {p q : Nat} (h : lt p q = true) : lt q p = false := by
  cases e : lt q p with
  | false => rfl
  | true => have := o.trans _ _ _ h e; rw [o.irrefl] at this; cases this
theorem split_sorted {lt : Nat → Nat → Bool} {N : Nat} (o : LtOk lt N) {k : Nat} (hk : k < N) : ∀ {ps : List Nat}, ps.Pairwise (fun p q => lt p q = true) → (∀ p ∈ ps, p < N ∧ p ≠ k) →
    ∃ P1 P2, ps = P1 ++ P2 ∧ (∀ p ∈ P1, lt p k = true) ∧ ∀ p ∈ P2, lt k p = true
  | [], _, _ => ⟨[], [], rfl, by simp, by simp⟩
  | p :: ps, hp, hm => by
    obtain ⟨h1, h2⟩ := List.pairwise_cons.mp hp
    obtain ⟨m1, m2⟩ := hm p (.head _)
    rcases o.total p k m1 hk m2 with q | q
    · obtain ⟨P1, P2, rfl, a, b⟩ := split_sorted o hk h2 fun x hx => hm x (.tail _ hx)
      refine ⟨p :: P1, P2, rfl, fun x hx => ?_, b⟩
      rcases List.mem_cons.mp hx with rfl | hx
      · exact q
      · exact a x hx
    · refine ⟨[], p :: ps, rfl, by simp, fun x hx => ?_⟩
      rcases List.mem_cons.mp hx with rfl | hx
      · exact q
      · exact o.trans _ _ _ q (h1 x hx)

abbrev pair (b : AV × AV) : List AV := [b.1, b.2]
/-- a row of pairs, in order -/
structure Laid (cut : Nat → Str) (lt : Nat → Nat → Bool) (side k : Nat) (row lasts : List AV) (ps : List Nat) (blk : Nat → AV × AV) : Prop where
  row : row = ps.flatMap fun p => pair (blk p)
  sorted : ps.Pairwise fun p q => lt p q = true
  mem : ∀ p, p ∈ ps ↔ p < k
  len : ps.length = k
  blk : ∀ p, p < k → Nm 145 (blk p).1 ∧ Nm 145 (blk p).2 ∧ bareA (blk p).1 = cut p ∧ bareA (blk p).2 = cut p ∧ ∃ b, lasts[p]? = some (.qn 145 b (cut p)) ∧ (if (p + side) % 2 = 0 then (blk p).1 else (blk p).2) = .qn 145 b (cut p)

theorem insAt_mid {xs ys : List AV} {v : AV} : insAt (xs ++ ys) xs.length v = xs ++ v :: ys := by
  unfold insAt; simp

theorem Laid.step {f : Str → Str} {cut : Nat → Str} {lt : Nat → Nat → Bool} {N side k : Nat} {row lasts : List AV} {ps : List Nat} {blk : Nat → AV × AV} (o : LtOk lt N) (hf : ∀ p q, p < N → q < N → strLt (f (cut p)) (f (cut q)) = lt p q)
    (l : Laid cut lt side k row lasts ps blk) (hk : k < N) (hll : lasts.length = k) {th : AV} {b : Addr} (hth : Nm 145 th) (hbt : bareA th = cut k) :
    ∃ A, PosR f row (f (cut k)) = A ∧ PosL f row (f (cut k)) = A ∧
      ((k + side) % 2 = 0 → ∃ ps' blk', Laid cut lt side (k + 1) (insAt (insAt row A th) (PosL f (insAt row A th) (f (cut k))) (.qn 145 b (cut k))) (lasts ++ [.qn 145 b (cut k)]) ps' blk') ∧
      ((k + side) % 2 ≠ 0 → ∃ ps' blk', Laid cut lt side (k + 1) (insAt (insAt row A th) (PosR f (insAt row A th) (f (cut k))) (.qn 145 b (cut k))) (lasts ++ [.qn 145 b (cut k)]) ps' blk') := by
  obtain ⟨P1, P2, rfl, h1, h2⟩ := split_sorted o hk l.sorted fun p hp => by have := (l.mem p).mp hp; omega
  have hin : ∀ {p}, p ∈ P1 ∨ p ∈ P2 → p < k := fun h => (l.mem _).mp (List.mem_append.mpr h)
  have hrow := l.row
  rw [List.flatMap_append] at hrow
  generalize eA : (P1.flatMap fun p => pair (blk p)) = A at hrow
  generalize eB : (P2.flatMap fun p => pair (blk p)) = B at hrow
  have hA : ∀ y ∈ A, ∃ p, p ∈ P1 ∧ bareA y = cut p := fun y hy => by
    rw [← eA] at hy
    obtain ⟨p, hp, hy⟩ := List.mem_flatMap.mp hy
    obtain ⟨_, _, e1, e2, _⟩ := l.blk p (hin (.inl hp))
    rcases List.mem_cons.mp hy with rfl | hy
    · exact ⟨p, hp, e1⟩
    · rw [List.mem_singleton.mp hy]; exact ⟨p, hp, e2⟩
  have hB : ∀ y ∈ B, ∃ p, p ∈ P2 ∧ bareA y = cut p := fun y hy => by
    rw [← eB] at hy
    obtain ⟨p, hp, hy⟩ := List.mem_flatMap.mp hy
    obtain ⟨_, _, e1, e2, _⟩ := l.blk p (hin (.inr hp))
    rcases List.mem_cons.mp hy with rfl | hy
    · exact ⟨p, hp, e1⟩
    · rw [List.mem_singleton.mp hy]; exact ⟨p, hp, e2⟩
  have a1 : ∀ y ∈ A, strLt (f (bareA y)) (f (cut k)) = true := fun y hy => by obtain ⟨p, hp, e⟩ := hA y hy; rw [e, hf _ _ (by have := hin (.inl hp); omega) hk]; exact h1 p hp
  have a2 : ∀ y ∈ A, strLt (f (cut k)) (f (bareA y)) = false := fun y hy => by obtain ⟨p, hp, e⟩ := hA y hy; rw [e, hf _ _ hk (by have := hin (.inl hp); omega)]; exact o.asymm (h1 p hp)
  have b1 : ∀ y ∈ B, strLt (f (bareA y)) (f (cut k)) = false := fun y hy => by obtain ⟨p, hp, e⟩ := hB y hy; rw [e, hf _ _ (by have := hin (.inr hp); omega) hk]; exact o.asymm (h2 p hp)
  have b2 : ∀ y ∈ B, strLt (f (cut k)) (f (bareA y)) = true := fun y hy => by obtain ⟨p, hp, e⟩ := hB y hy; rw [e, hf _ _ hk (by have := hin (.inr hp); omega)]; exact h2 p hp
  have hkk : strLt (f (cut k)) (f (cut k)) = false := by rw [hf k k hk hk]; exact o.irrefl k
  subst hrow
  have fin : ∀ x y : AV, Nm 145 x → Nm 145 y → bareA x = cut k → bareA y = cut k → (if (k + side) % 2 = 0 then x else y) = .qn 145 b (cut k) → ∃ ps' blk', Laid cut lt side (k + 1) (A ++ x :: y :: B) (lasts ++ [.qn 145 b (cut k)]) ps' blk' := fun x y nx ny bx bY hz => by
    refine ⟨P1 ++ k :: P2, fun p => if p = k then (x, y) else blk p, ?_, ?_, fun p => ?_, ?_, fun p hp => ?_⟩
    · rw [List.flatMap_append, List.flatMap_cons]
      have e1 : ∀ P : List Nat, (∀ p ∈ P, p < k) → (P.flatMap fun p => pair (if p = k then (x, y) else blk p)) = P.flatMap fun p => pair (blk p) := fun P hP => by
        rw [List.flatMap_def, List.flatMap_def]
        congr 1
        exact List.map_congr_left fun p hp => by rw [if_neg (by have := hP p hp; omega)]
      rw [e1 P1 fun p hp => hin (.inl hp), e1 P2 fun p hp => hin (.inr hp), eA, eB, if_pos rfl]
      rfl
    · obtain ⟨s1, s2, s3⟩ := List.pairwise_append.mp l.sorted
      refine List.pairwise_append.mpr ⟨s1, List.pairwise_cons.mpr ⟨h2, s2⟩, fun p hp q hq => ?_⟩
      rcases List.mem_cons.mp hq with rfl | hq
      · exact h1 p hp
      · exact s3 p hp q hq
    · have := l.mem p
      rw [List.mem_append] at this ⊢
      rw [List.mem_cons]
      constructor
      · rintro (h | h | h)
        · have := this.mp (.inl h); omega
        · omega
        · have := this.mp (.inr h); omega
      · intro h
        by_cases q : p = k
        · exact .inr (.inl q)
        · rcases this.mpr (by omega) with h | h
          · exact .inl h
          · exact .inr (.inr h)
    · have := l.len
      rw [List.length_append] at this ⊢
      rw [List.length_cons]; omega
    · by_cases q : p = k
      · subst q
        simp only [if_true]
        exact ⟨nx, ny, bx, bY, b, by rw [← hll]; simp, hz⟩
      · simp only [if_neg q]
        obtain ⟨c1, c2, c3, c4, b', c5, c6⟩ := l.blk p (by omega)
        exact ⟨c1, c2, c3, c4, b', by rw [List.getElem?_append_left (by omega)]; exact c5, c6⟩
  refine ⟨A.length, posR_mid a2 b2, posL_mid a1 b1, fun h => ?_, fun h => ?_⟩
  · rw [insAt_mid, posL_mid (xs := A) (ys := th :: B) a1 (fun y hy => by
      rcases List.mem_cons.mp hy with rfl | hy
      · rw [hbt]; exact hkk
      · exact b1 y hy), insAt_mid]
    exact fin (.qn 145 b (cut k)) th .qn hth rfl hbt (by rw [if_pos h])
  · rw [insAt_mid]
    have e : A ++ th :: B = (A ++ [th]) ++ B := by simp
    have e2 : PosR f (A ++ th :: B) (f (cut k)) = (A ++ [th]).length := by
      rw [e]
      refine posR_mid (fun y hy => ?_) b2
      rcases List.mem_append.mp hy with hy | hy
      · exact a2 y hy
      · rw [List.mem_singleton.mp hy, hbt]; exact hkk
    rw [e2, e, insAt_mid]
    have := fin th (.qn 145 b (cut k)) hth .qn hbt rfl (by rw [if_neg h])
    simpa using this

/-- both rows are laid in order -/
theorem Rows.laid {hand : Str → Str} {cut : Nat → Str} {dress : Int} {N : Nat} {lt0 lt1 : Nat → Nat → Bool} (o0 : LtOk lt0 N) (o1 : LtOk lt1 N) (h0 : ∀ p q, p < N → q < N → strLt (cut p) (cut q) = lt0 p q) (h1 : ∀ p q, p < N → q < N → strLt (hand (cut p)) (hand (cut q)) = lt1 p q)
    {k : Nat} {n p l : List AV} (r : Rows hand cut dress k n p l) (hk : k ≤ N) : (∃ ps blk, Laid cut lt0 0 k n l ps blk) ∧ ∃ ps blk, Laid cut lt1 1 k p l ps blk := by
  induction r with
  | nil => exact ⟨⟨[], fun _ => (.none, .none), ⟨rfl, .nil, by simp, rfl, fun p h => by omega⟩⟩, ⟨[], fun _ => (.none, .none), ⟨rfl, .nil, by simp, rfl, fun p h => by omega⟩⟩⟩
  | @step k n p l th la r hth hb hla ih =>
    obtain ⟨b, rfl⟩ := hla
    obtain ⟨⟨ps0, blk0, i0⟩, ⟨ps1, blk1, i1⟩⟩ := ih (by omega)
    obtain ⟨A0, r0, l0, x0, y0⟩ := Laid.step (f := id) (b := b) o0 h0 i0 (by omega) r.facts.ll hth hb
    obtain ⟨A1, r1, l1, x1, y1⟩ := Laid.step (f := hand) (b := b) o1 h1 i1 (by omega) r.facts.ll hth hb
    have e0 : posR n th = A0 := by rw [← r0, ← hb]; rfl
    have e1 : posLK hand p (hand (cut k)) = A1 := l1
    rw [e0, e1]
    by_cases q : k % 2 = 0
    · rw [if_pos q, if_pos q]
      exact ⟨x0 q, y1 (by omega)⟩
    · rw [if_neg q, if_neg q]
      exact ⟨y0 (by omega), x1 (by omega)⟩

theorem pair_get (blk : Nat → AV × AV) : ∀ (ps : List Nat) (j : Nat), (ps.flatMap fun p => pair (blk p))[2 * j]? = ps[j]?.map (fun p => (blk p).1) ∧ (ps.flatMap fun p => pair (blk p))[2 * j + 1]? = ps[j]?.map (fun p => (blk p).2)
  | [], j => by simp
  | p :: ps, 0 => by simp
  | p :: ps, j + 1 => by
    have := pair_get blk ps j
    rw [List.flatMap_cons, show 2 * (j + 1) = 2 * j + 1 + 1 by omega, show 2 * j + 1 + 1 + 1 = (2 * j + 1) + 1 + 1 by omega]
    simpa using this
theorem Laid.twice {T : Str} {lt : Nat → Nat → Bool} {side : Nat} {row lasts : List AV} {ps : List Nat} {blk : Nat → AV × AV} (l : Laid (suf T) lt side T.length row lasts ps blk) (hl : lasts.length = T.length) (hr : row.length = 2 * T.length) : Twice T row lasts side where
  lr := hr
  ll := hl
  at_ := fun j hj => by
    have hlt : j < ps.length := by rw [l.len]; exact hj
    have hp := (l.mem ps[j]).mp (List.getElem_mem hlt)
    obtain ⟨c1, c2, c3, c4, b, c5, c6⟩ := l.blk _ hp
    obtain ⟨g1, g2⟩ := pair_get blk ps j
    rw [← l.row, List.getElem?_eq_getElem hlt] at g1 g2
    exact ⟨ps[j], _, _, b, hp, g1, g2, c1, c2, c3, c4, c5, c6⟩
theorem Laid.sizes {T : Str} {lt : Nat → Nat → Bool} {side : Nat} {row lasts : List AV} {ps : List Nat} {blk : Nat → AV × AV} (l : Laid (suf T) lt side T.length row lasts ps blk) : sizesOf row T.length = ps.map fun p => T.length - p := by
  unfold sizesOf
  refine List.ext_getElem (by rw [List.length_map, List.length_map, List.length_range, l.len]) fun j h1 h2 => ?_
  have hlt : j < ps.length := by simpa using h2
  have hp := (l.mem ps[j]).mp (List.getElem_mem hlt)
  obtain ⟨g1, g2⟩ := pair_get blk ps j
  rw [← l.row, List.getElem?_eq_getElem hlt] at g1
  rw [List.getElem_map, List.getElem_map, List.getElem_range, List.getD_eq_getElem?_getD, g1]
  show (bareA (blk ps[j]).1).length = _
  rw [(l.blk _ hp).2.2.1, suf_len]
end PL

namespace PL
theorem str_ext {x y : Str} (h : x.cps.toList = y.cps.toList) : x = y := by
  rw [← sOf_eta x, ← sOf_eta y, h]
theorem sOf_app (x y : List Nat) : sOf x ++ sOf y = sOf (x ++ y) := by
  apply congrArg Str.mk
  apply Array.toList_inj.mp
  simp [sOf]
theorem sjoin_nil : ∀ xs : List Str, Str.join "" xs = sOf (xs.flatMap fun x => x.cps.toList)
  | [] => rfl
  | [x] => by
    show x = _
    rw [List.flatMap_cons, List.flatMap_nil, List.append_nil, sOf_eta]
  | x :: y :: r => by
    show x ++ "" ++ Str.join "" (y :: r) = _
    rw [sjoin_nil (y :: r)]
    have e : x ++ ("" : Str) = sOf x.cps.toList := by
      rw [sOf_eta]
      exact str_ext (by
        show (x.cps ++ #[]).toList = _
        simp)
    rw [e, sOf_app, List.flatMap_cons, List.flatMap_cons, List.flatMap_cons]
theorem tjoin_nil (xs : List Str) : Txt.join "" xs = sOf (xs.flatMap fun x => x.cps.toList) := by
  rw [← sjoin_nil]
  exact eq_of_beq (join_closes (sep := "") rfl)

theorem subL_app (c : Nat) (z x y : List Nat) : subL c z (x ++ y) = subL c z x ++ subL c z y := by unfold subL; rw [List.flatMap_append]

/-- what a hand does: sign by sign -/
structure HandCode (h : Hand) (hand : Str → Str) : Prop where
  code : ∃ e : List Nat → List Nat, (∀ t, hand t = sOf (e t.cps.toList)) ∧ e [] = [] ∧ (∀ x y, e (x ++ y) = e x ++ e y) ∧ ∀ d, d < h.letters.cps.toList.length → e [h.letters.cps.toList.getD d 0] = (h.spelled.getD d "").cps.toList
  up : ∀ d e, d < h.letters.cps.toList.length → e < h.letters.cps.toList.length → d ≠ e → ∀ s t : List Nat, decide ([h.letters.cps.toList.getD d 0] ++ s < [h.letters.cps.toList.getD e 0] ++ t) = decide (d < e)
  down : ∀ d e, d < h.letters.cps.toList.length → e < h.letters.cps.toList.length → d ≠ e → ∀ s t : List Nat, decide ((h.spelled.getD d "").cps.toList ++ s < (h.spelled.getD e "").cps.toList ++ t) = decide (e < d)
  ne : ∀ d, d < h.letters.cps.toList.length → (h.spelled.getD d "").cps.toList ≠ []
theorem two_lt {d : Nat} (h : d < 2) : d = 0 ∨ d = 1 := by omega
theorem three_lt {d : Nat} (h : d < 3) : d = 0 ∨ d = 1 ∨ d = 2 := by omega
theorem hand_code (n : Int) : HandCode (handOf n) (handFn (handOf n).f) := by
  unfold handOf
  split
  · refine ⟨⟨escCdata, fun t => rfl, rfl, fun x y => by simp only [escCdata, subL_app], fun d hd => ?_⟩, fun d e hd he hne s t => ?_, fun d e hd he hne s t => ?_, fun d hd => ?_⟩
    · rcases two_lt hd with rfl | rfl <;> decide
    · rcases two_lt hd with rfl | rfl <;> rcases two_lt he with rfl | rfl <;> first | exact absurd rfl hne | rfl | (simp; done)
    · rcases two_lt hd with rfl | rfl <;> rcases two_lt he with rfl | rfl <;> first | exact absurd rfl hne | rfl | (simp; done)
    · rcases two_lt hd with rfl | rfl <;> decide
  split
  · refine ⟨⟨escCdataC14n, fun t => rfl, rfl, fun x y => by simp only [escCdataC14n, subL_app], fun d hd => ?_⟩, fun d e hd he hne s t => ?_, fun d e hd he hne s t => ?_, fun d hd => ?_⟩
    · rcases two_lt hd with rfl | rfl <;> decide
    · rcases two_lt hd with rfl | rfl <;> rcases two_lt he with rfl | rfl <;> first | exact absurd rfl hne | rfl | (simp; done)
    · rcases two_lt hd with rfl | rfl <;> rcases two_lt he with rfl | rfl <;> first | exact absurd rfl hne | rfl | (simp; done)
    · rcases two_lt hd with rfl | rfl <;> decide
  split
  · refine ⟨⟨escAttribHtml, fun t => rfl, rfl, fun x y => by simp only [escAttribHtml, subL_app], fun d hd => ?_⟩, fun d e hd he hne s t => ?_, fun d e hd he hne s t => ?_, fun d hd => ?_⟩
    · rcases two_lt hd with rfl | rfl <;> decide
    · rcases two_lt hd with rfl | rfl <;> rcases two_lt he with rfl | rfl <;> first | exact absurd rfl hne | rfl | (simp; done)
    · rcases two_lt hd with rfl | rfl <;> rcases two_lt he with rfl | rfl <;> first | exact absurd rfl hne | rfl | (simp; done)
    · rcases two_lt hd with rfl | rfl <;> decide
  split
  · refine ⟨⟨escAttribC14n, fun t => rfl, rfl, fun x y => by simp only [escAttribC14n, subL_app], fun d hd => ?_⟩, fun d e hd he hne s t => ?_, fun d e hd he hne s t => ?_, fun d hd => ?_⟩
    · rcases two_lt hd with rfl | rfl <;> decide
    · rcases two_lt hd with rfl | rfl <;> rcases two_lt he with rfl | rfl <;> first | exact absurd rfl hne | rfl | (simp; done)
    · rcases two_lt hd with rfl | rfl <;> rcases two_lt he with rfl | rfl <;> first | exact absurd rfl hne | rfl | (simp; done)
    · rcases two_lt hd with rfl | rfl <;> decide
  · refine ⟨⟨escAttrib, fun t => rfl, rfl, fun x y => by simp only [escAttrib, subL_app], fun d hd => ?_⟩, fun d e hd he hne s t => ?_, fun d e hd he hne s t => ?_, fun d hd => ?_⟩
    · rcases three_lt hd with rfl | rfl | rfl <;> decide
    · rcases three_lt hd with rfl | rfl | rfl <;> rcases three_lt he with rfl | rfl | rfl <;> first | exact absurd rfl hne | rfl | (simp; done)
    · rcases three_lt hd with rfl | rfl | rfl <;> rcases three_lt he with rfl | rfl | rfl <;> first | exact absurd rfl hne | rfl | (simp; done)
    · rcases three_lt hd with rfl | rfl | rfl <;> decide
end PL

namespace PL
def up (x y : Nat) : Bool := decide (x < y)
def dn (x y : Nat) : Bool := decide (y < x)
theorem up_ord : OrdB up where
  asymm := fun x y h k => by have := of_decide_eq_true h; have := of_decide_eq_true k; omega
  total := fun x y h => by rcases Nat.lt_or_ge x y with q | q; exact .inl (decide_eq_true q); exact .inr (decide_eq_true (show y < x by omega))
  trans := fun x y z h k => by have := of_decide_eq_true h; have := of_decide_eq_true k; exact decide_eq_true (show x < z by omega)
theorem dn_ord : OrdB dn where
  asymm := fun x y h k => by have := of_decide_eq_true h; have := of_decide_eq_true k; omega
  total := fun x y h => by rcases Nat.lt_or_ge x y with q | q; exact .inr (decide_eq_true q); exact .inl (decide_eq_true (show y < x by omega))
  trans := fun x y z h k => by have := of_decide_eq_true h; have := of_decide_eq_true k; exact decide_eq_true (show z < x by omega)
theorem up_dn (x y : Nat) (h : up x y = true) (k : dn x y = true) : False := by have := of_decide_eq_true h; have := of_decide_eq_true k; omega

theorem pick_flat (L ds : List Nat) : pick L ds = sOf (ds.flatMap fun d => [L.getD d 0]) := by
  unfold pick; rw [List.map_eq_flatMap]
theorem pick_cps (L ds : List Nat) : (pick L ds).cps.toList = ds.map (L.getD · 0) := sOf_list _
theorem suf_pick (L ds : List Nat) (i : Nat) : suf (pick L ds) i = pick L (ds.drop i) := by
  apply str_ext
  rw [pick_cps]
  show ((pick L ds).cps.toList.take (pick L ds).length).drop i = _
  rw [pick_cps, pick_len, List.map_drop, List.take_of_length_le (by rw [List.length_map]; exact Nat.le_refl _)]
theorem cut_pick (L ds : List Nat) (m : Nat) : cutS (pick L ds) none (some m) = pick L (ds.take m) := by
  apply str_ext
  rw [pick_cps]
  show ((pick L ds).cps.toList.take m).drop 0 = _
  rw [pick_cps, List.map_take, List.drop_zero]
theorem pick_inj {L : List Nat} (nd : L.Nodup) : ∀ {xs ys : List Nat}, (∀ d ∈ xs, d < L.length) → (∀ d ∈ ys, d < L.length) → pick L xs = pick L ys → xs = ys := by
  intro xs ys hx hy h
  have h2 := congrArg (fun s : Str => s.cps.toList) h
  simp only [pick_cps] at h2
  clear h
  induction xs generalizing ys with
  | nil => cases ys with
    | nil => rfl
    | cons y ys => cases h2
  | cons x xs ih => cases ys with
    | nil => cases h2
    | cons y ys =>
      rw [List.map_cons, List.map_cons] at h2
      obtain ⟨e1, e2⟩ := List.cons.inj h2
      have h1 := hx x (.head _)
      have h3 := hy y (.head _)
      rw [List.getD_eq_getElem?_getD, List.getD_eq_getElem?_getD, List.getElem?_eq_getElem h1, List.getElem?_eq_getElem h3] at e1
      rw [nodup_inj nd h1 h3 e1, ih (fun d h => hx d (.tail _ h)) (fun d h => hy d (.tail _ h)) e2]

/-! the hand's orders -/
theorem hand_pick {h : Hand} {hand : Str → Str} (c : HandCode h hand) {ds : List Nat} (hd : ∀ d ∈ ds, d < h.letters.cps.toList.length) : hand (pick h.letters.cps.toList ds) = sOf (ds.flatMap fun d => (h.spelled.getD d "").cps.toList) := by
  obtain ⟨e, h1, h2, h3, h4⟩ := c.code
  rw [h1, pick_cps]
  congr 1
  induction ds with
  | nil => exact h2
  | cons d ds ih =>
    rw [List.map_cons, List.flatMap_cons, ← ih fun x hx => hd x (.tail _ hx), ← h4 d (hd d (.head _)), ← h3]
    rfl
theorem hand_told {h : Hand} {hand : Str → Str} (c : HandCode h hand) {ds : List Nat} (hd : ∀ d ∈ ds, d < h.letters.cps.toList.length) : hand (pick h.letters.cps.toList ds) = Txt.join "" (ds.map (h.spelled.getD · "")) := by
  rw [hand_pick c hd, tjoin_nil, List.flatMap_map]
theorem names_lt {h : Hand} {hand : Str → Str} (c : HandCode h hand) {xs ys : List Nat} (hx : ∀ d ∈ xs, d < h.letters.cps.toList.length) (hy : ∀ d ∈ ys, d < h.letters.cps.toList.length) : strLt (pick h.letters.cps.toList xs) (pick h.letters.cps.toList ys) = lexB up xs ys := by
  unfold strLt
  rw [pick_flat, pick_flat]
  simp only [sOf_list]
  exact lex_code (fun d hd => by simp) (fun d e hd he hne s t => c.up d e hd he hne s t) hx hy
theorem pages_lt {h : Hand} {hand : Str → Str} (c : HandCode h hand) {xs ys : List Nat} (hx : ∀ d ∈ xs, d < h.letters.cps.toList.length) (hy : ∀ d ∈ ys, d < h.letters.cps.toList.length) : strLt (hand (pick h.letters.cps.toList xs)) (hand (pick h.letters.cps.toList ys)) = lexB dn xs ys := by
  unfold strLt
  rw [hand_pick c hx, hand_pick c hy]
  simp only [sOf_list]
  exact lex_code c.ne (fun d e hd he hne s t => c.down d e hd he hne s t) hx hy
theorem lex_ok {r : Nat → Nat → Bool} (o : OrdB r) (ds : List Nat) : LtOk (fun p q => lexB r (ds.drop p) (ds.drop q)) ds.length where
  irrefl := fun p => lexB_irrefl _
  trans := fun p q s h k => lexB_trans o h k
  total := fun p q hp hq h => lexB_total o fun e => by
    have := congrArg List.length e
    rw [List.length_drop, List.length_drop] at this
    omega

/-! periods -/
theorem per_iff {xs : List Nat} {g : Nat} (hg : g ≤ xs.length) : xs.drop g = xs.take (xs.length - g) ↔ ∀ i, i + g < xs.length → xs[i + g]? = xs[i]? := by
  constructor
  · intro h i hi
    have := congrArg (fun l => l[i]?) h
    simp only [List.getElem?_drop] at this
    rw [Nat.add_comm i g, this, List.getElem?_take_of_lt (by omega)]
  · intro h
    refine List.ext_getElem? fun i => ?_
    rw [List.getElem?_drop]
    by_cases q : i + g < xs.length
    · rw [Nat.add_comm g i, h i q, List.getElem?_take_of_lt (by omega)]
    · rw [List.getElem?_eq_none (by omega), List.getElem?_eq_none (by rw [List.length_take]; omega)]
theorem perB_iff {L : List Nat} (nd : L.Nodup) {ds : List Nat} (hd : ∀ d ∈ ds, d < L.length) {g : Nat} (hg : g ≤ ds.length) : perB (pick L ds) g = true ↔ ∀ i, i + g < ds.length → ds[i + g]? = ds[i]? := by
  unfold perB
  rw [decide_eq_true_eq, suf_pick, cut_pick, pick_len, ← per_iff hg]
  exact ⟨fun h => pick_inj nd (fun d h => hd d (List.mem_of_mem_drop h)) (fun d h => hd d (List.mem_of_mem_take h)) h, fun h => by rw [h]⟩
theorem flat_get {r : List Nat} {s : Nat} (hs : r.length = s) : ∀ (m i : Nat), i < m * s → (flat m r)[i]? = r[i % s]?
  | 0, i, h => by simp at h
  | m + 1, i, h => by
    rw [flat_succ]
    by_cases q : i < s
    · rw [List.getElem?_append_left (by omega), Nat.mod_eq_of_lt q]
    · rw [List.getElem?_append_right (by omega), hs, flat_get hs m (i - s) (by rw [Nat.succ_mul] at h; omega), ← Nat.mod_eq_sub_mod (by omega)]
theorem written_get {ds : List Nat} {s i : Nat} (h1 : 1 ≤ s) (h2 : s ≤ ds.length) (hi : i < ds.length) : (written ds s)[i]? = ds[i % s]? := by
  have hl : (ds.take s).length = s := by rw [List.length_take]; omega
  have hm := Nat.mod_lt i (show s > 0 by omega)
  have hdm := Nat.div_add_mod ds.length s
  have hmn := Nat.mod_lt ds.length (show s > 0 by omega)
  unfold written
  by_cases q : i < ds.length / s * s
  · rw [List.getElem?_append_left (by rw [flat_len, hl]; exact q), flat_get hl _ _ q, List.getElem?_take_of_lt hm]
  · rw [Nat.mul_comm] at hdm
    have e : i % s = i - ds.length / s * s := by
      have h3 : i = (i - ds.length / s * s) + ds.length / s * s := by omega
      rw [h3, Nat.add_mul_mod_self_right, Nat.mod_eq_of_lt (by omega)]
      omega
    rw [List.getElem?_append_right (by rw [flat_len, hl]; omega), flat_len, hl, List.getElem?_take_of_lt (by omega), e]
theorem written_iff {ds : List Nat} {s : Nat} (h1 : 1 ≤ s) (h2 : s ≤ ds.length) : written ds s = ds ↔ ∀ i, i + s < ds.length → ds[i + s]? = ds[i]? := by
  constructor
  · intro h i hi
    have a := written_get h1 h2 hi
    have b := written_get h1 h2 (show i < ds.length by omega)
    rw [h] at a b
    rw [a, b, Nat.add_mod_right]
  · intro h
    have per : ∀ d i, i ≤ d → i < ds.length → ds[i]? = ds[i % s]? := fun d => by
      induction d with
      | zero => intro i hi _; rw [show i = 0 by omega, Nat.zero_mod]
      | succ d ih =>
        intro i hi hl
        by_cases q : i < s
        · rw [Nat.mod_eq_of_lt q]
        · have := h (i - s) (by omega)
          rw [show i - s + s = i by omega] at this
          rw [this, ih (i - s) (by omega) (by omega), ← Nat.mod_eq_sub_mod (by omega)]
    refine List.ext_getElem? fun i => ?_
    by_cases q : i < ds.length
    · rw [written_get h1 h2 q, ← per i i (Nat.le_refl _) q]
    · rw [List.getElem?_eq_none (by rw [written_len h1 h2]; omega), List.getElem?_eq_none (by omega)]
theorem again_ok {L : List Nat} (nd : L.Nodup) {ds : List Nat} (hd : ∀ d ∈ ds, d < L.length) : AgainOk (pick L ds) L ds := fun s h1 h2 => by
  rw [pick_len] at h2
  rw [Bool.eq_iff_iff, decide_eq_true_eq, perB_iff nd hd h2, ← written_iff h1 h2]
  refine ⟨fun h => pick_inj nd (fun d h => ?_) hd h, fun h => by rw [h]⟩
  unfold written flat at h
  rcases List.mem_append.mp h with h | h
  · obtain ⟨l, h3, h4⟩ := List.mem_flatten.mp h
    rw [(List.mem_replicate.mp h3).2] at h4
    exact hd d (List.mem_of_mem_take h4)
  · exact hd d (List.mem_of_mem_take h)

/-! critical places -/
theorem numOf_inj {a b : Nat} (h : numOf a - numOf b = 0) : a = b := by unfold numOf at h; omega
theorem alike_iff {ds : List Nat} {F C g : Nat} : alike (nums ds) F C g = true ↔ Alike (fun i => ds[i]?) ds.length F C g := by
  have gd : ∀ i, i < ds.length → ∃ d, ds[i]? = some d ∧ (nums ds).getD i 0 = numOf d := fun i hi => ⟨ds[i], List.getElem?_eq_getElem hi, by unfold nums; rw [List.getD_eq_getElem?_getD, List.getElem?_map, List.getElem?_eq_getElem hi]; rfl⟩
  unfold alike Alike
  rw [List.all_eq_true, nums_len]
  constructor
  · intro h k h1 h2
    have := h (k - max F (C - g)) (List.mem_range.mpr (by omega))
    rw [show max F (C - g) + (k - max F (C - g)) = k by omega] at this
    obtain ⟨x, e1, e2⟩ := gd (k + g) (by omega)
    obtain ⟨y, e3, e4⟩ := gd k (by omega)
    rw [e2, e4] at this
    show ds[k + g]? = ds[k]?
    rw [e1, e3, numOf_inj (of_decide_eq_true this)]
  · intro h k hk
    have hk := List.mem_range.mp hk
    have := h (max F (C - g) + k) (by omega) (by omega)
    obtain ⟨x, e1, e2⟩ := gd (max F (C - g) + k + g) (by omega)
    obtain ⟨y, e3, e4⟩ := gd (max F (C - g) + k) (by omega)
    rw [e2, e4]
    have e : some x = some y := by rw [← e1, ← e3]; exact this
    cases e
    exact decide_eq_true (by omega)

theorem last_max {lt : Nat → Nat → Bool} {n : Nat} {ps : List Nat} (hs : ps.Pairwise fun p q => lt p q = true) (hm : ∀ p, p ∈ ps ↔ p < n) {f : Nat} (hf : f < n) :
    ∃ C, f ≤ C ∧ C < n ∧ ((ps.map fun p => n - p).filter fun k => decide (k + f ≤ n)).getLast? = some (n - C) ∧ ∀ p, f ≤ p → p < n → p ≠ C → lt p C = true := by
  have e : ((ps.map fun p => n - p).filter fun k => decide (k + f ≤ n)) = (ps.filter fun p => decide (f ≤ p)).map fun p => n - p := by
    rw [List.filter_map]
    congr 1
    refine List.filter_congr fun p hp => ?_
    have := (hm p).mp hp
    simp only [Function.comp, decide_eq_decide]
    omega
  rw [e]
  generalize hq : (ps.filter fun p => decide (f ≤ p)) = qs
  have hqs : qs.Pairwise fun p q => lt p q = true := by rw [← hq]; exact hs.filter _
  have hqm : ∀ p, p ∈ qs ↔ f ≤ p ∧ p < n := fun p => by rw [← hq, List.mem_filter, hm]; simp [and_comm]
  rcases List.eq_nil_or_concat qs with h | ⟨q', C, h⟩
  · have := (hqm f).mpr ⟨Nat.le_refl _, hf⟩
    rw [h] at this; cases this
  · rw [List.concat_eq_append] at h
    subst h
    obtain ⟨a, b⟩ := (hqm C).mp (by simp)
    refine ⟨C, a, b, by rw [List.map_append]; simp, fun p h1 h2 h3 => ?_⟩
    have := (hqm p).mpr ⟨h1, h2⟩
    rcases List.mem_append.mp this with h | h
    · exact (List.pairwise_append.mp hqs).2.2 p h C (by simp)
    · exact absurd (List.mem_singleton.mp h) h3

theorem crit_ok {L : List Nat} (nd : L.Nodup) {ds : List Nat} (hd : ∀ d ∈ ds, d < L.length) {ps0 ps1 : List Nat} (s0 : ps0.Pairwise fun p q => lexB up (ds.drop p) (ds.drop q) = true) (s1 : ps1.Pairwise fun p q => lexB dn (ds.drop p) (ds.drop q) = true)
    (m0 : ∀ p, p ∈ ps0 ↔ p < ds.length) (m1 : ∀ p, p ∈ ps1 ↔ p < ds.length) : CritOk (pick L ds) ds (ps0.map fun p => ds.length - p) (ps1.map fun p => ds.length - p) where
  at_ := fun f hf => by
    rw [pick_len] at hf ⊢
    obtain ⟨C0, a0, b0, c0, d0⟩ := last_max s0 m0 hf
    obtain ⟨C1, a1, b1, c1, d1⟩ := last_max s1 m1 hf
    have l0 : ∀ r, ∀ p C, lexB r (ds.drop p) (ds.drop C) = true → Less r (fun i => ds[i]?) p C := fun r p C h => by
      obtain ⟨k, e, w⟩ := lexB_less h
      refine ⟨k, fun l hl => ?_, ?_⟩
      · have := e l hl
        rw [List.getElem?_drop, List.getElem?_drop] at this
        exact this
      · rw [List.getElem?_drop, List.getElem?_drop] at w
        exact w
    have crit : ∀ g, 1 ≤ g → Alike (fun i => ds[i]?) ds.length f (max C0 C1) g → ∀ k, f ≤ k → k + g < ds.length → ds[k + g]? = ds[k]? := fun g hg hal => by
      have hn : ∀ i, ds[i]? = none ↔ ds.length ≤ i := fun i => List.getElem?_eq_none_iff
      rcases Nat.le_total C1 C0 with q | q
      · rw [Nat.max_eq_left q] at hal
        exact critical (a := fun i => ds[i]?) up_ord dn_ord up_dn hn a1 q b0 hg (fun i h1 h2 h3 => l0 _ _ _ (d0 i h1 h2 h3)) (fun i h1 h2 h3 => l0 _ _ _ (d1 i h1 h2 h3)) hal
      · rw [Nat.max_eq_right q] at hal
        exact critical (a := fun i => ds[i]?) dn_ord up_ord (fun x y h k => up_dn x y k h) hn a0 q b1 hg (fun i h1 h2 h3 => l0 _ _ _ (d1 i h1 h2 h3)) (fun i h1 h2 h3 => l0 _ _ _ (d0 i h1 h2 h3)) hal
    have perf : ∀ g, g ≤ ds.length - f → (perB (suf (pick L ds) f) g = true ↔ ∀ k, f ≤ k → k + g < ds.length → ds[k + g]? = ds[k]?) := fun g hg => by
      rw [suf_pick, perB_iff nd (fun d h => hd d (List.mem_of_mem_drop h)) (by rw [List.length_drop]; exact hg)]
      simp only [List.getElem?_drop, List.length_drop]
      constructor
      · intro h k h1 h2
        have := h (k - f) (by omega)
        rw [show f + (k - f + g) = k + g by omega, show f + (k - f) = k by omega] at this
        exact this
      · intro h i hi
        have := h (f + i) (by omega) (by omega)
        rw [Nat.add_assoc] at this
        exact this
    have hpl : (suf (pick L ds) f).length = ds.length - f := by rw [suf_len, pick_len]
    have hmem : ∀ g, g ∈ periods (suf (pick L ds) f) ↔ 1 ≤ g ∧ g ≤ ds.length - f ∧ perB (suf (pick L ds) f) g = true := fun g => by
      unfold periods
      rw [List.mem_filter, hpl]
      constructor
      · rintro ⟨h1, h2⟩
        obtain ⟨k, h3, rfl⟩ := List.mem_map.mp h1
        have := List.mem_range.mp h3
        exact ⟨by omega, by omega, h2⟩
      · rintro ⟨h1, h2, h3⟩
        exact ⟨List.mem_map.mpr ⟨g - 1, List.mem_range.mpr (by omega), by omega⟩, h3⟩
    have hsort : (periods (suf (pick L ds) f)).Pairwise (· < ·) := by
      unfold periods
      refine List.Pairwise.filter _ (List.pairwise_map.mpr ?_)
      exact List.pairwise_lt_range.imp fun h => by omega
    have hlast : ds.length - f ∈ periods (suf (pick L ds) f) := (hmem _).mpr ⟨by omega, Nat.le_refl _, (perf _ (Nat.le_refl _)).mpr fun k h1 h2 => by omega⟩
    cases hp : periods (suf (pick L ds) f) with
    | nil => rw [hp] at hlast; cases hlast
    | cons gap rest =>
      rw [hp] at hsort
      obtain ⟨g1, g2, g3⟩ := (hmem gap).mp (by rw [hp]; exact .head _)
      refine ⟨ds.length - C0, ds.length - C1, gap, rest, by omega, by omega, c0, c1, rfl, fun g hs => ?_⟩
      have eC : ds.length - min (ds.length - C0) (ds.length - C1) = max C0 C1 := by omega
      rw [eC] at hs
      have toal : ∀ j, (∀ k, f ≤ k → k + j < ds.length → ds[k + j]? = ds[k]?) → alike (nums ds) f (max C0 C1) j = true := fun j h => alike_iff.mpr fun k h1 h2 => h k (by omega) (by omega)
      have hle : g ≤ ds.length - f := by
        rcases Nat.lt_or_ge (ds.length - f) g with q | q
        · have := hs.least (ds.length - f) (by omega) q
          rw [toal _ fun k h1 h2 => by omega] at this
          cases this
        · exact q
      have hper := (perf g hle).mpr (crit g hs.pos (alike_iff.mp hs.ok))
      have hin := (hmem g).mpr ⟨hs.pos, hle, hper⟩
      rw [hp] at hin
      rcases List.mem_cons.mp hin with h | h
      · exact h
      · have hlt := (List.pairwise_cons.mp hsort).1 g h
        have := hs.least gap g1 hlt
        rw [toal _ ((perf gap g2).mp g3)] at this
        cases this
end PL

namespace PL
abbrev sd (i : Nat) : Stmt := (fB 30).getD i (.Pass ⟨0, 0, 0, 0⟩)
theorem law_parts : fB 30 = (fB 30).take 4 ++ (sd 4 :: sd 5 :: sd 6 :: sd 7 :: sd 8 :: sd 9 :: sd 10 :: (fB 30).drop 11) := rfl
section
variable {G : Gl} {K : Frag} {A : Around} (g : GlOk G K) (kf : KFacts K) (gf : GFacts G) (q : QnF K)
include g kf gf q

theorem w_law (gl : GlLam G) (hcode : ∀ h, PIn G.Z0 h → CodeHd h 225 221) {L : Addr} (hr : Room 6 A) {ns : List Int} (hn : ns.length ≤ 1000) {P : Out → Prop} (hP : P (.ret (.bool true) [])) :
    SJ G A (lawX L) [("script", .ilist ns)] [] (execs (fB 30) (lawX L).env) P := by
  rw [law_parts]
  refine w_law_head g kf gf q gl hcode hr hn law_parts fun c0 c1 c2 T ds n p l hT h5 h10 rows => ?_
  have hc := hand_code c0
  have nd := hand_nd c0
  have eT : T = pick (handOf c0).letters.cps.toList ds := hT.eq
  have hTl : T.length = ds.length := by rw [eT, pick_len]
  have hdrop : ∀ i, ∀ d ∈ ds.drop i, d < (handOf c0).letters.cps.toList.length := fun i d h => hT.dom d (List.mem_of_mem_drop h)
  have hsuf : ∀ i, suf T i = pick (handOf c0).letters.cps.toList (ds.drop i) := fun i => by rw [eT, suf_pick]
  have n0 : ∀ p q, p < ds.length → q < ds.length → strLt (suf T p) (suf T q) = lexB up (ds.drop p) (ds.drop q) := fun p q _ _ => by rw [hsuf, hsuf]; exact names_lt hc (hdrop p) (hdrop q)
  have n1 : ∀ p q, p < ds.length → q < ds.length → strLt (handFn (handOf c0).f (suf T p)) (handFn (handOf c0).f (suf T q)) = lexB dn (ds.drop p) (ds.drop q) := fun p q _ _ => by rw [hsuf, hsuf]; exact pages_lt hc (hdrop p) (hdrop q)
  obtain ⟨⟨ps0, b0, l0⟩, ⟨ps1, b1, l1⟩⟩ := rows.laid (lex_ok up_ord ds) (lex_ok dn_ord ds) n0 n1 (by omega)
  have rf := rows.facts
  have told : handFn (handOf c0).f T = Txt.join "" (ds.map ((handOf c0).spelled.getD · "")) := by rw [eT]; exact hand_told hc hT.dom
  have e0 := l0.sizes
  have e1 := l1.sizes
  have m0 := l0.mem
  have m1 := l1.mem
  rw [hTl] at e0 e1 m0 m1
  have cr : CritOk T ds (sizesOf n T.length) (sizesOf p T.length) := by
    rw [hTl, e0, e1, eT]; exact crit_ok nd hT.dom l0.sorted l1.sorted m0 m1
  have ag : AgainOk T (handOf c0).letters.cps.toList ds := by rw [eT]; exact again_ok nd hT.dom
  have z0 : (sizesOf n T.length).length ≤ 12 := by unfold sizesOf; rw [List.length_map, List.length_range]; omega
  have z1 : (sizesOf p T.length).length ≤ 12 := by unfold sizesOf; rw [List.length_map, List.length_range]; omega
  refine w_law_given g kf gf q hr (by omega) ?_
  refine w_law_told g kf gf q hr hT (by omega) told ?_
  refine w_law_twice g kf gf q hr (by omega) (l0.twice rf.ll rf.ln) (l1.twice rf.ll rf.lp) ?_
  refine w_law_plain g kf gf q hr (by omega) rf ?_
  refine w_law_turned g kf gf q hr (by omega) rf ?_
  refine w_law_numbers g kf gf q hr hT (by omega) ?_
  refine w_law_crit g kf gf q hr (by omega) hTl.symm z0 z1 cr ?_
  exact w_law_sizes g kf gf q hr hT (by omega) ag hP
end
end PL

namespace PL
/-- all that lies there, but the table -/
def zB (h : Heap) : PH := fun a => if a = 221 then none else h.get? a
theorem zB_of {h : Heap} {a : Addr} {o : Obj} (e : h.get? a = some o) (n : a ≠ 221) : zB h a = some o := by unfold zB; rw [if_neg n]; exact e
theorem zB_in {h : Heap} : PIn (zB h) h := fun a o e => by
  unfold zB at e
  split at e
  · cases e
  · exact e
theorem zB_ns {h : Heap} {a : Addr} {m : Str → Option Value} (x : h.Ns a m) (n : a ≠ 221) : PNs (zB h) a m := let ⟨o, es, ep, e, r⟩ := x; ⟨o, es, ep, zB_of e n, r⟩

structure Base (prog : Program) (w : World) (K : Frag) (h : Heap) (mg mb : Str → Option Value) : Prop where
  kx : K.In h
  no : K.lookup 221 = none
  tab : h.get? 221 = some (tabObj #[])
  hd : codeHdIn K 225 221 = true
  g : h.Ns mainGlobals mg
  b : h.Ns builtinsNs mb
  nolimit : h.NoLimit
  bmain : ∃ bm ob, mg "__builtins__" = some (.ref bm) ∧ bm ≠ builtinsNs ∧ h.get? bm = some ob ∧ ob.cls = .type "module" ∧ ob.dict = some builtinsNs ∧ ob.data = .plain
  boot : ∀ x : Str, x ≠ "__name__" → mb x = bootBuiltins x

section
variable {prog : Program} {w : World} {K : Frag} {h : Heap} {mg mb : Str → Option Value} (bs : Base prog w K h mg mb)
include bs
abbrev glOf (prog : Program) (w : World) (h : Heap) : Gl := ⟨prog, w, zB h⟩
theorem Base.ok : GlOk (glOf prog w h) K where
  k := fun a o e => zB_of (bs.kx _ _ e) fun q => by subst q; rw [bs.no] at e; cases e
  nolim := let ⟨mc, n, e⟩ := bs.nolimit; ⟨mc, zB_ns n (by decide), e⟩
theorem Base.lam : GlLam (glOf prog w h) where
  bm := by
    obtain ⟨bm, ob, e1, e2, e3, e4, e5, e6⟩ := bs.bmain
    have hne : bm ≠ 221 := fun q => by
      subst q
      rw [bs.tab] at e3
      cases e3; cases e4
    have hmg : bm ≠ mainGlobals := fun q => by
      subst q
      obtain ⟨o, es, ep, e, hd, _⟩ := bs.g
      rw [e3] at e
      cases e
      rw [e6] at hd; cases hd
    exact ⟨mg, bm, ob, zB_ns bs.g (by decide), e1, e2, hmg, zB_of e3 hne, e4, e5, e6⟩
theorem Base.code : ∀ h', PIn (glOf prog w h).Z0 h' → CodeHd h' 225 221 := fun h' i => codeHd_of_K (K := K) (fun a o e => i _ _ (bs.ok.k _ _ e)) bs.hd
theorem Base.glb {x : Str} {v : Value} (e : nsIn K mainGlobals x = some (some v)) : Glb (glOf prog w h) x v := ⟨mg, zB_ns bs.g (by decide), .inl (mg_of bs.kx bs.g e)⟩
theorem Base.glbB {x : Str} {v : Value} (e : nsIn K mainGlobals x = some none) (hv : bootBuiltins x = some v) (hn : x ≠ "__name__" := by decide) : Glb (glOf prog w h) x v :=
  ⟨mg, zB_ns bs.g (by decide), .inr ⟨mg_none_of bs.kx bs.g e, mb, zB_ns bs.b (by decide), by rw [bs.boot x hn]; exact hv⟩⟩

theorem Base.run (kf : KFacts K) (q : QnF K) (gf : GFacts (glOf prog w h)) {s : Shared} (hs : s.heap = h) {ns : List Int} (hn : ns.length ≤ 1000) {D : Addr} {items : Array Value} (hl : h.IsList D items) (hi : IntsAre items.toList ns) {E : Value → Shared → Prop} {A : Around} (hr : Room 7 A) :
    wpAny (model prog w) A (call (.ref 264) [.ref D]) (fun v s' => v = .bool true ∧ OldK s.heap s'.heap ∧ s'.os = s.os ∧ s'.gens = s.gens) E s := by
  subst hs
  obtain ⟨oD, hD, cD, nD, dD⟩ := hl
  have hD221 : D ≠ 221 := fun e => by
    subst e
    rw [bs.tab] at hD
    cases hD; cases cD
  have z0 : zB s.heap 221 = none := by unfold zB; rw [if_pos rfl]
  have ld : Lend (zB s.heap) s.heap [] [(225, 221, tabQ)] (fun b => b == 221) := ⟨by simp, by simp, fun r hr => by
    rw [List.mem_singleton.mp hr]
    exact ⟨z0, #[], bs.tab, trivial, fun pos cv e => by cases e⟩, by simp, by simp, fun r hr => by rw [List.mem_singleton.mp hr]; rfl, fun b hb => .inr (by simpa using hb)⟩
  have hvr : BindsR (zB s.heap) [("script", .ref D)] [("script", .ilist ns)] := fun y u e => by
    rw [lookup_cons_if] at e
    by_cases q : y = ("script" : Str)
    · subst q; rw [if_pos rfl] at e; cases e
      exact ⟨.ref D, rfl, .ilist (zB_of hD hD221) cD dD hi⟩
    · rw [if_neg q] at e; cases e
  refine wpAny_call (code_fn (G := glOf prog w s.heap) bs.ok [] kf.F_law lawMc (n := 6) (by have := hr.depth; omega) (Z := zB s.heap) (PSub.refl _) zB_in (fun S => kf.B_law S (.ref D)) (.inr ⟨"script", .ref D, rfl, rfl⟩) hvr rfl (by decide) (by decide) (fun p hp => by cases hp) ld (P := fun σ x => σ = [] ∧ x = .bool true)
    (fun L => w_law bs.ok kf gf q bs.lam bs.code hr.deeper hn ⟨rfl, rfl⟩) (fun v s' Z' σ' x l tk _ tabs _ r p => ?_) fun _ _ _ p hp => by cases hp)
  obtain ⟨rfl, rfl⟩ := p
  refine ⟨by cases r; rfl, ?_, ?_, ?_⟩
  · have there : ∀ b o, b ≠ 221 → s.heap.get? b = some o → s'.heap.get? b = some o := fun b o hb e => l.kp b o (by simpa using hb) e
    obtain ⟨ps, hps, _⟩ := tabs _ (.head _)
    refine ⟨fun b o e => ?_, fun b o e => ?_⟩
    · by_cases q : b = 221
      · subst q
        rw [bs.tab] at e
        cases e
        have hc := (codeHd_of_K bs.kx bs.hd).tab bs.tab
        exact .inr (.inl ⟨hc.isCodeTable, rfl, #[], ps, rfl, by simpa using hps⟩)
      · exact .inl (there b o q e)
    · by_cases q : b = 221
      · subst q; exact ⟨_, hps⟩
      · exact ⟨o, there b o q e⟩
  · obtain ⟨h2, tk2, rfl⟩ := l.ext; rfl
  · obtain ⟨h2, tk2, rfl⟩ := l.ext; rfl
end
end PL

namespace PL
/-- what the written part says of the names -/
structure NFacts (K : Frag) : Prop where
  n_insort_right : nsIn K mainGlobals "insort_right" = some (some (.ref 23))
  n_bisect_right : nsIn K mainGlobals "bisect_right" = some (some (.ref 32))
  n_insort_left : nsIn K mainGlobals "insort_left" = some (some (.ref 41))
  n_bisect_left : nsIn K mainGlobals "bisect_left" = some (some (.ref 50))
  n_ENDMARKER : ∃ t : Tok, nsIn K mainGlobals "ENDMARKER" = some (some (.int 0 t))
  n_NT_OFFSET : ∃ t : Tok, nsIn K mainGlobals "NT_OFFSET" = some (some (.int 256 t))
  n_ISTERMINAL : nsIn K mainGlobals "ISTERMINAL" = some (some (.ref 57))
  n_ISNONTERMINAL : nsIn K mainGlobals "ISNONTERMINAL" = some (some (.ref 64))
  n_ISEOF : nsIn K mainGlobals "ISEOF" = some (some (.ref 71))
  n_QName : nsIn K mainGlobals "QName" = some (some (.ref 145))
  n_raise_serialization_error : nsIn K mainGlobals "_raise_serialization_error" = some (some (.ref 156))
  n_escape_cdata : nsIn K mainGlobals "_escape_cdata" = some (some (.ref 163))
  n_escape_attrib : nsIn K mainGlobals "_escape_attrib" = some (some (.ref 170))
  n_escape_attrib_html : nsIn K mainGlobals "_escape_attrib_html" = some (some (.ref 177))
  n_escape_cdata_c14n : nsIn K mainGlobals "_escape_cdata_c14n" = some (some (.ref 184))
  n_escape_attrib_c14n : nsIn K mainGlobals "_escape_attrib_c14n" = some (some (.ref 191))
  n_law_cells : nsIn K mainGlobals "_law_cells" = some (some (.ref 198))
  n_law_hand : nsIn K mainGlobals "_law_hand" = some (some (.ref 205))
  n_law_text : nsIn K mainGlobals "_law_text" = some (some (.ref 212))
  n_law_bare : nsIn K mainGlobals "_law_bare" = some (some (.ref 219))
  n_law_rows : nsIn K mainGlobals "_law_rows" = some (some (.ref 226))
  n_law_twice : nsIn K mainGlobals "_law_twice" = some (some (.ref 233))
  n_law_alike : nsIn K mainGlobals "_law_alike" = some (some (.ref 240))
  n_law_seen : nsIn K mainGlobals "_law_seen" = some (some (.ref 247))
  n_law_periods : nsIn K mainGlobals "_law_periods" = some (some (.ref 252))
  n_law_written : nsIn K mainGlobals "_law_written" = some (some (.ref 259))
  n_law : nsIn K mainGlobals "law" = some (some (.ref 264))
  n_len : nsIn K mainGlobals "len" = some none
  n_range : nsIn K mainGlobals "range" = some none
  n_isinstance : nsIn K mainGlobals "isinstance" = some none
  n_max : nsIn K mainGlobals "max" = some none
  n_min : nsIn K mainGlobals "min" = some none
  n_sorted : nsIn K mainGlobals "sorted" = some none

section
variable {prog : Program} {w : World} {K : Frag} {h : Heap} {mg mb : Str → Option Value} (bs : Base prog w K h mg mb)
include bs
theorem Base.gf (nf : NFacts K) : GFacts (glOf prog w h) where
  g_insort_right := bs.glb nf.n_insort_right
  g_bisect_right := bs.glb nf.n_bisect_right
  g_insort_left := bs.glb nf.n_insort_left
  g_bisect_left := bs.glb nf.n_bisect_left
  g_ENDMARKER := (nf.n_ENDMARKER).imp fun _ e => bs.glb e
  g_NT_OFFSET := (nf.n_NT_OFFSET).imp fun _ e => bs.glb e
  g_ISTERMINAL := bs.glb nf.n_ISTERMINAL
  g_ISNONTERMINAL := bs.glb nf.n_ISNONTERMINAL
  g_ISEOF := bs.glb nf.n_ISEOF
  g_QName := bs.glb nf.n_QName
  g_raise_serialization_error := bs.glb nf.n_raise_serialization_error
  g_escape_cdata := bs.glb nf.n_escape_cdata
  g_escape_attrib := bs.glb nf.n_escape_attrib
  g_escape_attrib_html := bs.glb nf.n_escape_attrib_html
  g_escape_cdata_c14n := bs.glb nf.n_escape_cdata_c14n
  g_escape_attrib_c14n := bs.glb nf.n_escape_attrib_c14n
  g_law_cells := bs.glb nf.n_law_cells
  g_law_hand := bs.glb nf.n_law_hand
  g_law_text := bs.glb nf.n_law_text
  g_law_bare := bs.glb nf.n_law_bare
  g_law_rows := bs.glb nf.n_law_rows
  g_law_twice := bs.glb nf.n_law_twice
  g_law_alike := bs.glb nf.n_law_alike
  g_law_seen := bs.glb nf.n_law_seen
  g_law_periods := bs.glb nf.n_law_periods
  g_law_written := bs.glb nf.n_law_written
  g_law := bs.glb nf.n_law
  g_len := bs.glbB nf.n_len rfl
  g_range := bs.glbB nf.n_range rfl
  g_isinstance := bs.glbB nf.n_isinstance rfl
  g_max := bs.glbB nf.n_max rfl
  g_min := bs.glbB nf.n_min rfl
  g_sorted := bs.glbB nf.n_sorted rfl
end
/-- the law's claim from what the head leaves -/
theorem finish {p q : Program} {loose : List Str} {mean : ExcName → Option Value} {mg mb : Str → Option Value} {c : ClaimW} {w : World} {s₁ : Shared} {K : Frag} {cl : Str → Option Addr} {mean2 : ExcName → Option Value} {args : List WData} {fa D : Addr} {items : List Value} {ns : List Int}
    (KX : K.In s₁.heap) (KT : ∀ P : Addr, P ∈ [221] → s₁.heap.get? P = some (tabObj #[])) (T : Top q loose mean mg mb s₁.heap) (hmg : mg "law" = some (.ref fa)) (hg : s₁.gens = #[]) (hL : s₁.heap.IsList D items.toArray) (hI : IntsAre items ns) (hlen : ns.length ≤ 1000)
    (kf : KFacts K) (nf : NFacts K) (qn : QnF K) (hno : K.lookup 221 = none) (hcd : codeHdIn K 225 221 = true)
    (hn : ∀ cls, c.raises args cls = false) (hp : c.post args (.bool true) args = true) :
    wpAny (model p w) callerA (call (.ref fa) [.ref D]) (fun v s' => GoodWG c cl mean2 args s₁ (.ok (.ret v)) s') (fun e s' => GoodWG c cl mean2 args s₁ (.error e) s') s₁ := by
  have e : fa = 264 := by
    have := mg_of KX T.g nf.n_law
    rw [hmg] at this
    cases this; rfl
  subst e
  have bs : Base p w K s₁.heap mg mb := ⟨KX, hno, KT 221 (by simp), hcd, T.g, T.b, T.nolimit, T.bmain, T.builtins⟩
  refine wpAny_mono (bs.run kf qn (bs.gf nf) rfl hlen hL (by simpa using hI) ⟨rfl, by decide, by decide⟩) (fun v s' r => ?_) fun _ _ e => e
  obtain ⟨rfl, h1, h2, h3⟩ := r
  exact ⟨.inl ⟨.bool true, .bool true, [], rfl, hn, .bool true, hp, fun _ => ⟨by simp, fun a ha => by cases ha⟩⟩, h1, h2, .of_eq (by rw [h3, hg])⟩
end PL

namespace PL
def stP (p : Program) (i : Nat) : Option Stmt := p.main.body[i]?
/-- the objects that the law comes to -/
def kLaw (p : Program) (P : Params) : Frag := [
  (3, { cls := Value.type "dict", data := Data.dict #[{ hash := PyData.keyHash P (Str.ofString "__name__"), key := Value.str (Str.ofString "__name__") 165, val := Value.str (Str.ofString "law_uc0024_01") 405 }, { hash := PyData.keyHash P (Str.ofString "__doc__"), key := Value.str (Str.ofString "__doc__") 166, val := Value.none }, { hash := PyData.keyHash P (Str.ofString "__package__"), key := Value.str (Str.ofString "__package__") 167, val := Value.none }, { hash := PyData.keyHash P (Str.ofString "__loader__"), key := Value.str (Str.ofString "__loader__") 168, val := Value.builtin "__main__.__loader__#opaque" }, { hash := PyData.keyHash P (Str.ofString "__spec__"), key := Value.str (Str.ofString "__spec__") 169, val := Value.none }, { hash := PyData.keyHash P (Str.ofString "__annotations__"), key := Value.str (Str.ofString "__annotations__") 170, val := Value.ref 6 }, { hash := PyData.keyHash P (Str.ofString "__builtins__"), key := Value.str (Str.ofString "__builtins__") 171, val := Value.ref 4 }, { hash := PyData.keyHash P (Str.ofString "__file__"), key := Value.str (Str.ofString "__file__") 173, val := Value.str (Str.ofString "/claim/cut.py") 172 }, { hash := PyData.keyHash P (Str.ofString "__cached__"), key := Value.str (Str.ofString "__cached__") 174, val := Value.none }, { hash := PyData.keyHash P (Str.ofString "insort_right"), key := Value.str (Str.ofString "insort_right") 201, val := Value.ref 23 }, { hash := PyData.keyHash P (Str.ofString "bisect_right"), key := Value.str (Str.ofString "bisect_right") 215, val := Value.ref 32 }, { hash := PyData.keyHash P (Str.ofString "insort_left"), key := Value.str (Str.ofString "insort_left") 228, val := Value.ref 41 }, { hash := PyData.keyHash P (Str.ofString "bisect_left"), key := Value.str (Str.ofString "bisect_left") 242, val := Value.ref 50 }, { hash := PyData.keyHash P (Str.ofString "ENDMARKER"), key := Value.str (Str.ofString "ENDMARKER") 246, val := Value.int 0 245 }, { hash := PyData.keyHash P (Str.ofString "NT_OFFSET"), key := Value.str (Str.ofString "NT_OFFSET") 248, val := Value.int 256 247 }, { hash := PyData.keyHash P (Str.ofString "ISTERMINAL"), key := Value.str (Str.ofString "ISTERMINAL") 255, val := Value.ref 57 }, { hash := PyData.keyHash P (Str.ofString "ISNONTERMINAL"), key := Value.str (Str.ofString "ISNONTERMINAL") 262, val := Value.ref 64 }, { hash := PyData.keyHash P (Str.ofString "ISEOF"), key := Value.str (Str.ofString "ISEOF") 269, val := Value.ref 71 }, { hash := PyData.keyHash P (Str.ofString "QName"), key := Value.str (Str.ofString "QName") 362, val := Value.ref 145 }, { hash := PyData.keyHash P (Str.ofString "_raise_serialization_error"), key := Value.str (Str.ofString "_raise_serialization_error") 369, val := Value.ref 156 }, { hash := PyData.keyHash P (Str.ofString "_escape_cdata"), key := Value.str (Str.ofString "_escape_cdata") 376, val := Value.ref 163 }, { hash := PyData.keyHash P (Str.ofString "_escape_attrib"), key := Value.str (Str.ofString "_escape_attrib") 383, val := Value.ref 170 }, { hash := PyData.keyHash P (Str.ofString "_escape_attrib_html"), key := Value.str (Str.ofString "_escape_attrib_html") 390, val := Value.ref 177 }, { hash := PyData.keyHash P (Str.ofString "_escape_cdata_c14n"), key := Value.str (Str.ofString "_escape_cdata_c14n") 397, val := Value.ref 184 }, { hash := PyData.keyHash P (Str.ofString "_escape_attrib_c14n"), key := Value.str (Str.ofString "_escape_attrib_c14n") 404, val := Value.ref 191 }, { hash := PyData.keyHash P (Str.ofString "_law_cells"), key := Value.str (Str.ofString "_law_cells") 415, val := Value.ref 198 }, { hash := PyData.keyHash P (Str.ofString "_law_hand"), key := Value.str (Str.ofString "_law_hand") 422, val := Value.ref 205 }, { hash := PyData.keyHash P (Str.ofString "_law_text"), key := Value.str (Str.ofString "_law_text") 434, val := Value.ref 212 }, { hash := PyData.keyHash P (Str.ofString "_law_bare"), key := Value.str (Str.ofString "_law_bare") 441, val := Value.ref 219 }, { hash := PyData.keyHash P (Str.ofString "_law_rows"), key := Value.str (Str.ofString "_law_rows") 457, val := Value.ref 226 }, { hash := PyData.keyHash P (Str.ofString "_law_twice"), key := Value.str (Str.ofString "_law_twice") 469, val := Value.ref 233 }, { hash := PyData.keyHash P (Str.ofString "_law_alike"), key := Value.str (Str.ofString "_law_alike") 480, val := Value.ref 240 }, { hash := PyData.keyHash P (Str.ofString "_law_seen"), key := Value.str (Str.ofString "_law_seen") 490, val := Value.ref 247 }, { hash := PyData.keyHash P (Str.ofString "_law_periods"), key := Value.str (Str.ofString "_law_periods") 496, val := Value.ref 252 }, { hash := PyData.keyHash P (Str.ofString "_law_written"), key := Value.str (Str.ofString "_law_written") 510, val := Value.ref 259 }, { hash := PyData.keyHash P (Str.ofString "law"), key := Value.str (Str.ofString "law") 516, val := Value.ref 264 }] 36 }),
  (15, { cls := Value.type "tuple", data := Data.seq #[Value.int 0 189, Value.none] }),
  (16, { cls := Value.type "dict", data := Data.dict #[{ hash := PyData.keyHash P (Str.ofString "key"), key := Value.str (Str.ofString "key") 190, val := Value.none }] 1 }),
  (22, { cls := Value.type "code", data := Data.fields #[Value.str (Str.ofString "insort_right") 191, Value.str (Str.ofString "insort_right") 192, Value.str (Str.ofString "/claim/cut.py") 193, Value.int 2 0, Value.int 4 0, Value.int 0 0, Value.int 1 0, Value.int 3 0, Value.ref 17, Value.bool true, Value.int 181 0, Value.ref 18, Value.none, Value.ref 19, Value.ref 20, Value.ref 21, Value.int 199 0, Value.int 2 0, Value.str (Str.ofString "/claim/cut.py") 200] }),
  (23, { cls := Value.type "function", data := Data.func { name := Str.ofString "insort_right", qualname := Str.ofString "insort_right", params := sP (stP p 1), body := FuncBody.stmts (sB (stP p 1)), scope := sS (stP p 1), globals := 3, closure := [], defaults := Value.ref 15, kwdefaults := Value.ref 16, pyModule := Value.str (Str.ofString "cpy313.bisect") 187, code := Value.ref 22 } }),
  (24, { cls := Value.type "tuple", data := Data.seq #[Value.int 0 202, Value.none] }),
  (25, { cls := Value.type "dict", data := Data.dict #[{ hash := PyData.keyHash P (Str.ofString "key"), key := Value.str (Str.ofString "key") 203, val := Value.none }] 1 }),
  (31, { cls := Value.type "code", data := Data.fields #[Value.str (Str.ofString "bisect_right") 204, Value.str (Str.ofString "bisect_right") 205, Value.str (Str.ofString "/claim/cut.py") 206, Value.int 8 0, Value.int 4 0, Value.int 0 0, Value.int 1 0, Value.int 3 0, Value.ref 26, Value.bool true, Value.int 181 0, Value.ref 27, Value.none, Value.ref 28, Value.ref 29, Value.ref 30, Value.int 213 0, Value.int 8 0, Value.str (Str.ofString "/claim/cut.py") 214] }),
  (32, { cls := Value.type "function", data := Data.func { name := Str.ofString "bisect_right", qualname := Str.ofString "bisect_right", params := sP (stP p 2), body := FuncBody.stmts (sB (stP p 2)), scope := sS (stP p 2), globals := 3, closure := [], defaults := Value.ref 24, kwdefaults := Value.ref 25, pyModule := Value.str (Str.ofString "cpy313.bisect") 187, code := Value.ref 31 } }),
  (33, { cls := Value.type "tuple", data := Data.seq #[Value.int 0 216, Value.none] }),
  (34, { cls := Value.type "dict", data := Data.dict #[{ hash := PyData.keyHash P (Str.ofString "key"), key := Value.str (Str.ofString "key") 217, val := Value.none }] 1 }),
  (40, { cls := Value.type "code", data := Data.fields #[Value.str (Str.ofString "insort_left") 218, Value.str (Str.ofString "insort_left") 219, Value.str (Str.ofString "/claim/cut.py") 220, Value.int 28 0, Value.int 4 0, Value.int 0 0, Value.int 1 0, Value.int 3 0, Value.ref 35, Value.bool true, Value.int 181 0, Value.ref 36, Value.none, Value.ref 37, Value.ref 38, Value.ref 39, Value.int 226 0, Value.int 28 0, Value.str (Str.ofString "/claim/cut.py") 227] }),
  (41, { cls := Value.type "function", data := Data.func { name := Str.ofString "insort_left", qualname := Str.ofString "insort_left", params := sP (stP p 3), body := FuncBody.stmts (sB (stP p 3)), scope := sS (stP p 3), globals := 3, closure := [], defaults := Value.ref 33, kwdefaults := Value.ref 34, pyModule := Value.str (Str.ofString "cpy313.bisect") 187, code := Value.ref 40 } }),
  (42, { cls := Value.type "tuple", data := Data.seq #[Value.int 0 229, Value.none] }),
  (43, { cls := Value.type "dict", data := Data.dict #[{ hash := PyData.keyHash P (Str.ofString "key"), key := Value.str (Str.ofString "key") 230, val := Value.none }] 1 }),
  (49, { cls := Value.type "code", data := Data.fields #[Value.str (Str.ofString "bisect_left") 231, Value.str (Str.ofString "bisect_left") 232, Value.str (Str.ofString "/claim/cut.py") 233, Value.int 34 0, Value.int 4 0, Value.int 0 0, Value.int 1 0, Value.int 3 0, Value.ref 44, Value.bool true, Value.int 181 0, Value.ref 45, Value.none, Value.ref 46, Value.ref 47, Value.ref 48, Value.int 240 0, Value.int 34 0, Value.str (Str.ofString "/claim/cut.py") 241] }),
  (50, { cls := Value.type "function", data := Data.func { name := Str.ofString "bisect_left", qualname := Str.ofString "bisect_left", params := sP (stP p 4), body := FuncBody.stmts (sB (stP p 4)), scope := sS (stP p 4), globals := 3, closure := [], defaults := Value.ref 42, kwdefaults := Value.ref 43, pyModule := Value.str (Str.ofString "cpy313.bisect") 187, code := Value.ref 49 } }),
  (56, { cls := Value.type "code", data := Data.fields #[Value.str (Str.ofString "ISTERMINAL") 249, Value.str (Str.ofString "ISTERMINAL") 250, Value.str (Str.ofString "/claim/cut.py") 251, Value.int 57 0, Value.int 1 0, Value.int 0 0, Value.int 0 0, Value.int 3 0, Value.ref 51, Value.bool true, Value.int 181 0, Value.ref 52, Value.none, Value.ref 53, Value.ref 54, Value.ref 55, Value.int 253 0, Value.int 57 0, Value.str (Str.ofString "/claim/cut.py") 254] }),
  (57, { cls := Value.type "function", data := Data.func { name := Str.ofString "ISTERMINAL", qualname := Str.ofString "ISTERMINAL", params := sP (stP p 8), body := FuncBody.stmts (sB (stP p 8)), scope := sS (stP p 8), globals := 3, closure := [], defaults := Value.none, kwdefaults := Value.none, pyModule := Value.str (Str.ofString "cpy313.token") 243, code := Value.ref 56 } }),
  (63, { cls := Value.type "code", data := Data.fields #[Value.str (Str.ofString "ISNONTERMINAL") 256, Value.str (Str.ofString "ISNONTERMINAL") 257, Value.str (Str.ofString "/claim/cut.py") 258, Value.int 59 0, Value.int 1 0, Value.int 0 0, Value.int 0 0, Value.int 3 0, Value.ref 58, Value.bool true, Value.int 181 0, Value.ref 59, Value.none, Value.ref 60, Value.ref 61, Value.ref 62, Value.int 260 0, Value.int 59 0, Value.str (Str.ofString "/claim/cut.py") 261] }),
  (64, { cls := Value.type "function", data := Data.func { name := Str.ofString "ISNONTERMINAL", qualname := Str.ofString "ISNONTERMINAL", params := sP (stP p 9), body := FuncBody.stmts (sB (stP p 9)), scope := sS (stP p 9), globals := 3, closure := [], defaults := Value.none, kwdefaults := Value.none, pyModule := Value.str (Str.ofString "cpy313.token") 243, code := Value.ref 63 } }),
  (70, { cls := Value.type "code", data := Data.fields #[Value.str (Str.ofString "ISEOF") 263, Value.str (Str.ofString "ISEOF") 264, Value.str (Str.ofString "/claim/cut.py") 265, Value.int 61 0, Value.int 1 0, Value.int 0 0, Value.int 0 0, Value.int 3 0, Value.ref 65, Value.bool true, Value.int 181 0, Value.ref 66, Value.none, Value.ref 67, Value.ref 68, Value.ref 69, Value.int 267 0, Value.int 61 0, Value.str (Str.ofString "/claim/cut.py") 268] }),
  (71, { cls := Value.type "function", data := Data.func { name := Str.ofString "ISEOF", qualname := Str.ofString "ISEOF", params := sP (stP p 10), body := FuncBody.stmts (sB (stP p 10)), scope := sS (stP p 10), globals := 3, closure := [], defaults := Value.none, kwdefaults := Value.none, pyModule := Value.str (Str.ofString "cpy313.token") 243, code := Value.ref 70 } }),
  (79, { cls := Value.type "tuple", data := Data.seq #[Value.none] }),
  (85, { cls := Value.type "code", data := Data.fields #[Value.str (Str.ofString "__init__") 284, Value.str (Str.ofString "QName.__init__") 285, Value.str (Str.ofString "/claim/cut.py") 286, Value.int 66 0, Value.int 3 0, Value.int 0 0, Value.int 0 0, Value.int 3 0, Value.ref 80, Value.bool true, Value.int 181 0, Value.ref 81, Value.none, Value.ref 82, Value.ref 83, Value.ref 84, Value.int 290 0, Value.int 66 0, Value.str (Str.ofString "/claim/cut.py") 291] }),
  (86, { cls := Value.type "function", data := Data.func { name := Str.ofString "__init__", qualname := Str.ofString "QName.__init__", params := sP (cM 0 (stP p 12)), body := FuncBody.stmts (sB (cM 0 (stP p 12))), scope := sS (cM 0 (stP p 12)), globals := 3, closure := [], defaults := Value.ref 79, kwdefaults := Value.none, pyModule := Value.str (Str.ofString "cpy313.xml.etree.ElementTree") 270, code := Value.ref 85 } }),
  (120, { cls := Value.type "code", data := Data.fields #[Value.str (Str.ofString "__lt__") 322, Value.str (Str.ofString "QName.__lt__") 323, Value.str (Str.ofString "/claim/cut.py") 324, Value.int 85 0, Value.int 2 0, Value.int 0 0, Value.int 0 0, Value.int 3 0, Value.ref 115, Value.bool true, Value.int 181 0, Value.ref 116, Value.none, Value.ref 117, Value.ref 118, Value.ref 119, Value.int 327 0, Value.int 85 0, Value.str (Str.ofString "/claim/cut.py") 328] }),
  (121, { cls := Value.type "function", data := Data.func { name := Str.ofString "__lt__", qualname := Str.ofString "QName.__lt__", params := sP (cM 5 (stP p 12)), body := FuncBody.stmts (sB (cM 5 (stP p 12))), scope := sS (cM 5 (stP p 12)), globals := 3, closure := [], defaults := Value.none, kwdefaults := Value.none, pyModule := Value.str (Str.ofString "cpy313.xml.etree.ElementTree") 270, code := Value.ref 120 } }),
  (134, { cls := Value.type "code", data := Data.fields #[Value.str (Str.ofString "__gt__") 338, Value.str (Str.ofString "QName.__gt__") 339, Value.str (Str.ofString "/claim/cut.py") 340, Value.int 95 0, Value.int 2 0, Value.int 0 0, Value.int 0 0, Value.int 3 0, Value.ref 129, Value.bool true, Value.int 181 0, Value.ref 130, Value.none, Value.ref 131, Value.ref 132, Value.ref 133, Value.int 343 0, Value.int 95 0, Value.str (Str.ofString "/claim/cut.py") 344] }),
  (135, { cls := Value.type "function", data := Data.func { name := Str.ofString "__gt__", qualname := Str.ofString "QName.__gt__", params := sP (cM 7 (stP p 12)), body := FuncBody.stmts (sB (cM 7 (stP p 12))), scope := sS (cM 7 (stP p 12)), globals := 3, closure := [], defaults := Value.none, kwdefaults := Value.none, pyModule := Value.str (Str.ofString "cpy313.xml.etree.ElementTree") 270, code := Value.ref 134 } }),
  (144, { cls := Value.type "dict", data := Data.dict #[{ hash := PyData.keyHash P (Str.ofString "__module__"), key := Value.str (Str.ofString "__module__") 279, val := Value.str (Str.ofString "cpy313.xml.etree.ElementTree") 270 }, { hash := PyData.keyHash P (Str.ofString "__firstlineno__"), key := Value.str (Str.ofString "__firstlineno__") 283, val := Value.int 64 282 }, { hash := PyData.keyHash P (Str.ofString "__init__"), key := Value.str (Str.ofString "__init__") 292, val := Value.ref 86 }, { hash := PyData.keyHash P (Str.ofString "__str__"), key := Value.str (Str.ofString "__str__") 299, val := Value.ref 93 }, { hash := PyData.keyHash P (Str.ofString "__repr__"), key := Value.str (Str.ofString "__repr__") 306, val := Value.ref 100 }, { hash := PyData.keyHash P (Str.ofString "__hash__"), key := Value.str (Str.ofString "__hash__") 313, val := Value.ref 107 }, { hash := PyData.keyHash P (Str.ofString "__le__"), key := Value.str (Str.ofString "__le__") 321, val := Value.ref 114 }, { hash := PyData.keyHash P (Str.ofString "__lt__"), key := Value.str (Str.ofString "__lt__") 329, val := Value.ref 121 }, { hash := PyData.keyHash P (Str.ofString "__ge__"), key := Value.str (Str.ofString "__ge__") 337, val := Value.ref 128 }, { hash := PyData.keyHash P (Str.ofString "__gt__"), key := Value.str (Str.ofString "__gt__") 345, val := Value.ref 135 }, { hash := PyData.keyHash P (Str.ofString "__eq__"), key := Value.str (Str.ofString "__eq__") 353, val := Value.ref 142 }, { hash := PyData.keyHash P (Str.ofString "__static_attributes__"), key := Value.str (Str.ofString "__static_attributes__") 355, val := Value.ref 143 }, { hash := PyData.keyHash P (Str.ofString "__dict__"), key := Value.str (Str.ofString "__dict__") 357, val := Value.ref 146 }, { hash := PyData.keyHash P (Str.ofString "__weakref__"), key := Value.str (Str.ofString "__weakref__") 359, val := Value.ref 147 }, { hash := PyData.keyHash P (Str.ofString "__doc__"), key := Value.str (Str.ofString "__doc__") 360, val := Value.none }] 4 }),
  (145, { cls := Value.type "type", data := Data.cls { name := Str.ofString "QName", bases := [Value.type "object"], mro := [Value.ref 145, Value.type "object"], ns := 144, qualname := Str.ofString "QName" }, slots := #[none, none, some (Value.str (Str.ofString "QName") 272), some (Value.str (Str.ofString "QName") 280), some (Value.builtin "object.__new__"), some (Value.bool true)] }),
  (155, { cls := Value.type "code", data := Data.fields #[Value.str (Str.ofString "_raise_serialization_error") 363, Value.str (Str.ofString "_raise_serialization_error") 364, Value.str (Str.ofString "/claim/cut.py") 365, Value.int 104 0, Value.int 1 0, Value.int 0 0, Value.int 0 0, Value.int 3 0, Value.ref 150, Value.bool true, Value.int 181 0, Value.ref 151, Value.none, Value.ref 152, Value.ref 153, Value.ref 154, Value.int 367 0, Value.int 104 0, Value.str (Str.ofString "/claim/cut.py") 368] }),
  (156, { cls := Value.type "function", data := Data.func { name := Str.ofString "_raise_serialization_error", qualname := Str.ofString "_raise_serialization_error", params := sP (stP p 13), body := FuncBody.stmts (sB (stP p 13)), scope := sS (stP p 13), globals := 3, closure := [], defaults := Value.none, kwdefaults := Value.none, pyModule := Value.str (Str.ofString "cpy313.xml.etree.ElementTree") 270, code := Value.ref 155 } }),
  (162, { cls := Value.type "code", data := Data.fields #[Value.str (Str.ofString "_escape_cdata") 370, Value.str (Str.ofString "_escape_cdata") 371, Value.str (Str.ofString "/claim/cut.py") 372, Value.int 106 0, Value.int 1 0, Value.int 0 0, Value.int 0 0, Value.int 3 0, Value.ref 157, Value.bool true, Value.int 181 0, Value.ref 158, Value.none, Value.ref 159, Value.ref 160, Value.ref 161, Value.int 374 0, Value.int 106 0, Value.str (Str.ofString "/claim/cut.py") 375] }),
  (163, { cls := Value.type "function", data := Data.func { name := Str.ofString "_escape_cdata", qualname := Str.ofString "_escape_cdata", params := sP (stP p 14), body := FuncBody.stmts (sB (stP p 14)), scope := sS (stP p 14), globals := 3, closure := [], defaults := Value.none, kwdefaults := Value.none, pyModule := Value.str (Str.ofString "cpy313.xml.etree.ElementTree") 270, code := Value.ref 162 } }),
  (169, { cls := Value.type "code", data := Data.fields #[Value.str (Str.ofString "_escape_attrib") 377, Value.str (Str.ofString "_escape_attrib") 378, Value.str (Str.ofString "/claim/cut.py") 379, Value.int 117 0, Value.int 1 0, Value.int 0 0, Value.int 0 0, Value.int 3 0, Value.ref 164, Value.bool true, Value.int 181 0, Value.ref 165, Value.none, Value.ref 166, Value.ref 167, Value.ref 168, Value.int 381 0, Value.int 117 0, Value.str (Str.ofString "/claim/cut.py") 382] }),
  (170, { cls := Value.type "function", data := Data.func { name := Str.ofString "_escape_attrib", qualname := Str.ofString "_escape_attrib", params := sP (stP p 15), body := FuncBody.stmts (sB (stP p 15)), scope := sS (stP p 15), globals := 3, closure := [], defaults := Value.none, kwdefaults := Value.none, pyModule := Value.str (Str.ofString "cpy313.xml.etree.ElementTree") 270, code := Value.ref 169 } }),
  (176, { cls := Value.type "code", data := Data.fields #[Value.str (Str.ofString "_escape_attrib_html") 384, Value.str (Str.ofString "_escape_attrib_html") 385, Value.str (Str.ofString "/claim/cut.py") 386, Value.int 136 0, Value.int 1 0, Value.int 0 0, Value.int 0 0, Value.int 3 0, Value.ref 171, Value.bool true, Value.int 181 0, Value.ref 172, Value.none, Value.ref 173, Value.ref 174, Value.ref 175, Value.int 388 0, Value.int 136 0, Value.str (Str.ofString "/claim/cut.py") 389] }),
  (177, { cls := Value.type "function", data := Data.func { name := Str.ofString "_escape_attrib_html", qualname := Str.ofString "_escape_attrib_html", params := sP (stP p 16), body := FuncBody.stmts (sB (stP p 16)), scope := sS (stP p 16), globals := 3, closure := [], defaults := Value.none, kwdefaults := Value.none, pyModule := Value.str (Str.ofString "cpy313.xml.etree.ElementTree") 270, code := Value.ref 176 } }),
  (183, { cls := Value.type "code", data := Data.fields #[Value.str (Str.ofString "_escape_cdata_c14n") 391, Value.str (Str.ofString "_escape_cdata_c14n") 392, Value.str (Str.ofString "/claim/cut.py") 393, Value.int 147 0, Value.int 1 0, Value.int 0 0, Value.int 0 0, Value.int 3 0, Value.ref 178, Value.bool true, Value.int 181 0, Value.ref 179, Value.none, Value.ref 180, Value.ref 181, Value.ref 182, Value.int 395 0, Value.int 147 0, Value.str (Str.ofString "/claim/cut.py") 396] }),
  (184, { cls := Value.type "function", data := Data.func { name := Str.ofString "_escape_cdata_c14n", qualname := Str.ofString "_escape_cdata_c14n", params := sP (stP p 17), body := FuncBody.stmts (sB (stP p 17)), scope := sS (stP p 17), globals := 3, closure := [], defaults := Value.none, kwdefaults := Value.none, pyModule := Value.str (Str.ofString "cpy313.xml.etree.ElementTree") 270, code := Value.ref 183 } }),
  (190, { cls := Value.type "code", data := Data.fields #[Value.str (Str.ofString "_escape_attrib_c14n") 398, Value.str (Str.ofString "_escape_attrib_c14n") 399, Value.str (Str.ofString "/claim/cut.py") 400, Value.int 160 0, Value.int 1 0, Value.int 0 0, Value.int 0 0, Value.int 3 0, Value.ref 185, Value.bool true, Value.int 181 0, Value.ref 186, Value.none, Value.ref 187, Value.ref 188, Value.ref 189, Value.int 402 0, Value.int 160 0, Value.str (Str.ofString "/claim/cut.py") 403] }),
  (191, { cls := Value.type "function", data := Data.func { name := Str.ofString "_escape_attrib_c14n", qualname := Str.ofString "_escape_attrib_c14n", params := sP (stP p 18), body := FuncBody.stmts (sB (stP p 18)), scope := sS (stP p 18), globals := 3, closure := [], defaults := Value.none, kwdefaults := Value.none, pyModule := Value.str (Str.ofString "cpy313.xml.etree.ElementTree") 270, code := Value.ref 190 } }),
  (197, { cls := Value.type "code", data := Data.fields #[Value.str (Str.ofString "_law_cells") 407, Value.str (Str.ofString "_law_cells") 408, Value.str (Str.ofString "/claim/cut.py") 409, Value.int 178 0, Value.int 1 0, Value.int 0 0, Value.int 0 0, Value.int 3 0, Value.ref 192, Value.bool true, Value.int 181 0, Value.ref 193, Value.none, Value.ref 194, Value.ref 195, Value.ref 196, Value.int 413 0, Value.int 178 0, Value.str (Str.ofString "/claim/cut.py") 414] }),
  (198, { cls := Value.type "function", data := Data.func { name := Str.ofString "_law_cells", qualname := Str.ofString "_law_cells", params := sP (stP p 20), body := FuncBody.stmts (sB (stP p 20)), scope := sS (stP p 20), globals := 3, closure := [], defaults := Value.none, kwdefaults := Value.none, pyModule := Value.str (Str.ofString "law_uc0024_01") 405, code := Value.ref 197 } }),
  (204, { cls := Value.type "code", data := Data.fields #[Value.str (Str.ofString "_law_hand") 416, Value.str (Str.ofString "_law_hand") 417, Value.str (Str.ofString "/claim/cut.py") 418, Value.int 183 0, Value.int 1 0, Value.int 0 0, Value.int 0 0, Value.int 3 0, Value.ref 199, Value.bool true, Value.int 181 0, Value.ref 200, Value.none, Value.ref 201, Value.ref 202, Value.ref 203, Value.int 420 0, Value.int 183 0, Value.str (Str.ofString "/claim/cut.py") 421] }),
  (205, { cls := Value.type "function", data := Data.func { name := Str.ofString "_law_hand", qualname := Str.ofString "_law_hand", params := sP (stP p 21), body := FuncBody.stmts (sB (stP p 21)), scope := sS (stP p 21), globals := 3, closure := [], defaults := Value.none, kwdefaults := Value.none, pyModule := Value.str (Str.ofString "law_uc0024_01") 405, code := Value.ref 204 } }),
  (211, { cls := Value.type "code", data := Data.fields #[Value.str (Str.ofString "_law_text") 423, Value.str (Str.ofString "_law_text") 424, Value.str (Str.ofString "/claim/cut.py") 425, Value.int 193 0, Value.int 2 0, Value.int 0 0, Value.int 0 0, Value.int 3 0, Value.ref 206, Value.bool true, Value.int 181 0, Value.ref 207, Value.none, Value.ref 208, Value.ref 209, Value.ref 210, Value.int 432 0, Value.int 193 0, Value.str (Str.ofString "/claim/cut.py") 433] }),
  (212, { cls := Value.type "function", data := Data.func { name := Str.ofString "_law_text", qualname := Str.ofString "_law_text", params := sP (stP p 22), body := FuncBody.stmts (sB (stP p 22)), scope := sS (stP p 22), globals := 3, closure := [], defaults := Value.none, kwdefaults := Value.none, pyModule := Value.str (Str.ofString "law_uc0024_01") 405, code := Value.ref 211 } }),
  (218, { cls := Value.type "code", data := Data.fields #[Value.str (Str.ofString "_law_bare") 435, Value.str (Str.ofString "_law_bare") 436, Value.str (Str.ofString "/claim/cut.py") 437, Value.int 202 0, Value.int 1 0, Value.int 0 0, Value.int 0 0, Value.int 3 0, Value.ref 213, Value.bool true, Value.int 181 0, Value.ref 214, Value.none, Value.ref 215, Value.ref 216, Value.ref 217, Value.int 439 0, Value.int 202 0, Value.str (Str.ofString "/claim/cut.py") 440] }),
  (219, { cls := Value.type "function", data := Data.func { name := Str.ofString "_law_bare", qualname := Str.ofString "_law_bare", params := sP (stP p 23), body := FuncBody.stmts (sB (stP p 23)), scope := sS (stP p 23), globals := 3, closure := [], defaults := Value.none, kwdefaults := Value.none, pyModule := Value.str (Str.ofString "law_uc0024_01") 405, code := Value.ref 218 } }),
  (225, { cls := Value.type "code", data := Data.fields #[Value.str (Str.ofString "_law_rows") 442, Value.str (Str.ofString "_law_rows") 443, Value.str (Str.ofString "/claim/cut.py") 444, Value.int 206 0, Value.int 3 0, Value.int 0 0, Value.int 0 0, Value.int 3 0, Value.ref 220, Value.bool true, Value.int 181 0, Value.ref 221, Value.none, Value.ref 222, Value.ref 223, Value.ref 224, Value.int 455 0, Value.int 206 0, Value.str (Str.ofString "/claim/cut.py") 456] }),
  (226, { cls := Value.type "function", data := Data.func { name := Str.ofString "_law_rows", qualname := Str.ofString "_law_rows", params := sP (stP p 24), body := FuncBody.stmts (sB (stP p 24)), scope := sS (stP p 24), globals := 3, closure := [], defaults := Value.none, kwdefaults := Value.none, pyModule := Value.str (Str.ofString "law_uc0024_01") 405, code := Value.ref 225 } }),
  (232, { cls := Value.type "code", data := Data.fields #[Value.str (Str.ofString "_law_twice") 458, Value.str (Str.ofString "_law_twice") 459, Value.str (Str.ofString "/claim/cut.py") 460, Value.int 225 0, Value.int 3 0, Value.int 0 0, Value.int 0 0, Value.int 3 0, Value.ref 227, Value.bool true, Value.int 181 0, Value.ref 228, Value.none, Value.ref 229, Value.ref 230, Value.ref 231, Value.int 467 0, Value.int 225 0, Value.str (Str.ofString "/claim/cut.py") 468] }),
  (233, { cls := Value.type "function", data := Data.func { name := Str.ofString "_law_twice", qualname := Str.ofString "_law_twice", params := sP (stP p 25), body := FuncBody.stmts (sB (stP p 25)), scope := sS (stP p 25), globals := 3, closure := [], defaults := Value.none, kwdefaults := Value.none, pyModule := Value.str (Str.ofString "law_uc0024_01") 405, code := Value.ref 232 } }),
  (239, { cls := Value.type "code", data := Data.fields #[Value.str (Str.ofString "_law_alike") 470, Value.str (Str.ofString "_law_alike") 471, Value.str (Str.ofString "/claim/cut.py") 472, Value.int 232 0, Value.int 4 0, Value.int 0 0, Value.int 0 0, Value.int 3 0, Value.ref 234, Value.bool true, Value.int 181 0, Value.ref 235, Value.none, Value.ref 236, Value.ref 237, Value.ref 238, Value.int 478 0, Value.int 232 0, Value.str (Str.ofString "/claim/cut.py") 479] }),
  (240, { cls := Value.type "function", data := Data.func { name := Str.ofString "_law_alike", qualname := Str.ofString "_law_alike", params := sP (stP p 26), body := FuncBody.stmts (sB (stP p 26)), scope := sS (stP p 26), globals := 3, closure := [], defaults := Value.none, kwdefaults := Value.none, pyModule := Value.str (Str.ofString "law_uc0024_01") 405, code := Value.ref 239 } }),
  (246, { cls := Value.type "code", data := Data.fields #[Value.str (Str.ofString "_law_seen") 481, Value.str (Str.ofString "_law_seen") 482, Value.str (Str.ofString "/claim/cut.py") 483, Value.int 237 0, Value.int 3 0, Value.int 0 0, Value.int 0 0, Value.int 3 0, Value.ref 241, Value.bool true, Value.int 181 0, Value.ref 242, Value.none, Value.ref 243, Value.ref 244, Value.ref 245, Value.int 488 0, Value.int 237 0, Value.str (Str.ofString "/claim/cut.py") 489] }),
  (247, { cls := Value.type "function", data := Data.func { name := Str.ofString "_law_seen", qualname := Str.ofString "_law_seen", params := sP (stP p 27), body := FuncBody.stmts (sB (stP p 27)), scope := sS (stP p 27), globals := 3, closure := [], defaults := Value.none, kwdefaults := Value.none, pyModule := Value.str (Str.ofString "law_uc0024_01") 405, code := Value.ref 246 } }),
  (251, { cls := Value.type "code", data := Data.fields #[Value.str (Str.ofString "_law_periods") 491, Value.str (Str.ofString "_law_periods") 492, Value.str (Str.ofString "/claim/cut.py") 493, Value.int 242 0, Value.int 1 0, Value.int 0 0, Value.int 0 0, Value.int 3 0, Value.ref 248, Value.bool true, Value.int 181 0, Value.ref 249, Value.none, Value.none, Value.none, Value.ref 250, Value.int 494 0, Value.int 242 0, Value.str (Str.ofString "/claim/cut.py") 495] }),
  (252, { cls := Value.type "function", data := Data.func { name := Str.ofString "_law_periods", qualname := Str.ofString "_law_periods", params := sP (stP p 28), body := FuncBody.stmts (sB (stP p 28)), scope := sS (stP p 28), globals := 3, closure := [], defaults := Value.none, kwdefaults := Value.none, pyModule := Value.str (Str.ofString "law_uc0024_01") 405, code := Value.ref 251 } }),
  (258, { cls := Value.type "code", data := Data.fields #[Value.str (Str.ofString "_law_written") 497, Value.str (Str.ofString "_law_written") 498, Value.str (Str.ofString "/claim/cut.py") 499, Value.int 244 0, Value.int 3 0, Value.int 0 0, Value.int 0 0, Value.int 3 0, Value.ref 253, Value.bool true, Value.int 181 0, Value.ref 254, Value.none, Value.ref 255, Value.ref 256, Value.ref 257, Value.int 508 0, Value.int 244 0, Value.str (Str.ofString "/claim/cut.py") 509] }),
  (259, { cls := Value.type "function", data := Data.func { name := Str.ofString "_law_written", qualname := Str.ofString "_law_written", params := sP (stP p 29), body := FuncBody.stmts (sB (stP p 29)), scope := sS (stP p 29), globals := 3, closure := [], defaults := Value.none, kwdefaults := Value.none, pyModule := Value.str (Str.ofString "law_uc0024_01") 405, code := Value.ref 258 } }),
  (263, { cls := Value.type "code", data := Data.fields #[Value.str (Str.ofString "law") 511, Value.str (Str.ofString "law") 512, Value.str (Str.ofString "/claim/cut.py") 513, Value.int 264 0, Value.int 1 0, Value.int 0 0, Value.int 0 0, Value.int 3 0, Value.ref 260, Value.bool true, Value.int 181 0, Value.ref 261, Value.none, Value.none, Value.none, Value.ref 262, Value.int 514 0, Value.int 264 0, Value.str (Str.ofString "/claim/cut.py") 515] }),
  (264, { cls := Value.type "function", data := Data.func { name := Str.ofString "law", qualname := Str.ofString "law", params := sP (stP p 30), body := FuncBody.stmts (sB (stP p 30)), scope := sS (stP p 30), globals := 3, closure := [], defaults := Value.none, kwdefaults := Value.none, pyModule := Value.str (Str.ofString "law_uc0024_01") 405, code := Value.ref 263 } })]
def kAds : List Addr := [3, 15, 16, 22, 23, 24, 25, 31, 32, 33, 34, 40, 41, 42, 43, 49, 50, 56, 57, 63, 64, 70, 71, 79, 85, 86, 120, 121, 134, 135, 144, 145, 155, 156, 162, 163, 169, 170, 176, 177, 183, 184, 190, 191, 197, 198, 204, 205, 211, 212, 218, 219, 225, 226, 232, 233, 239, 240, 246, 247, 251, 252, 258, 259, 263, 264]
def hkLaw : Hook := kmHook (kLaw PySem.Challenge.pw_uc0024_01) kAds (fun _ => rfl) [221]
theorem kf_law (P : Params) : KFacts (kLaw PySem.Challenge.pw_uc0024_01 P) :=
  ⟨⟨⟨_, _, _, _, _, _, _, _, rfl⟩, rfl⟩,
  ⟨⟨_, _, _, _, _, _, _, _, rfl⟩, rfl⟩,
  ⟨⟨_, _, _, _, _, _, _, _, rfl⟩, rfl⟩,
  ⟨⟨_, _, _, _, _, _, _, _, rfl⟩, rfl⟩,
  ⟨⟨_, _, _, _, _, _, _, _, rfl⟩, rfl⟩,
  ⟨⟨_, _, _, _, _, _, _, _, rfl⟩, rfl⟩,
  ⟨⟨_, _, _, _, _, _, _, _, rfl⟩, rfl⟩,
  ⟨⟨_, _, _, _, _, _, _, _, rfl⟩, rfl⟩,
  ⟨⟨_, _, _, _, _, _, _, _, rfl⟩, rfl⟩,
  ⟨⟨_, _, _, _, _, _, _, _, rfl⟩, rfl⟩,
  ⟨⟨_, _, _, _, _, _, _, _, rfl⟩, rfl⟩,
  ⟨⟨_, _, _, _, _, _, _, _, rfl⟩, rfl⟩,
  ⟨⟨_, _, _, _, _, _, _, _, rfl⟩, rfl⟩,
  ⟨⟨_, _, _, _, _, _, _, _, rfl⟩, rfl⟩,
  ⟨⟨_, _, _, _, _, _, _, _, rfl⟩, rfl⟩,
  ⟨⟨_, _, _, _, _, _, _, _, rfl⟩, rfl⟩,
  ⟨⟨_, _, _, _, _, _, _, _, rfl⟩, rfl⟩,
  ⟨⟨_, _, _, _, _, _, _, _, rfl⟩, rfl⟩,
  ⟨⟨_, _, _, _, _, _, _, _, rfl⟩, rfl⟩,
  ⟨⟨_, _, _, _, _, _, _, _, rfl⟩, rfl⟩,
  ⟨⟨_, _, _, _, _, _, _, _, rfl⟩, rfl⟩,
  ⟨⟨_, _, _, _, _, _, _, _, rfl⟩, rfl⟩,
  ⟨⟨_, _, _, _, _, _, _, _, rfl⟩, rfl⟩,
  ⟨⟨_, _, _, _, _, _, _, _, rfl⟩, rfl⟩,
  ⟨⟨_, _, _, _, _, _, _, _, rfl⟩, rfl⟩,
  ⟨⟨_, _, _, _, _, _, _, _, rfl⟩, rfl⟩,
  ⟨⟨_, _, _, _, _, _, _, _, rfl⟩, rfl⟩,
  ⟨_, fun _ _ _ => rfl⟩,
  ⟨_, fun _ _ _ _ => rfl⟩,
  fun _ _ _ _ _ => rfl,
  fun _ _ _ _ _ _ => rfl,
  ⟨_, fun _ _ _ _ => rfl⟩,
  ⟨_, fun _ _ _ => rfl⟩,
  ⟨_, fun _ _ _ _ => rfl⟩,
  fun _ _ _ _ _ => rfl,
  fun _ _ _ _ _ _ => rfl,
  ⟨_, fun _ _ _ _ => rfl⟩,
  fun _ _ => rfl,
  fun _ _ => rfl,
  fun _ _ => rfl,
  fun _ _ _ => rfl,
  fun _ _ _ => rfl,
  fun _ _ _ => rfl,
  fun _ _ => rfl,
  fun _ _ => rfl,
  fun _ _ => rfl,
  fun _ _ => rfl,
  fun _ _ => rfl,
  fun _ _ => rfl,
  fun _ _ => rfl,
  fun _ _ => rfl,
  fun _ _ _ => rfl,
  fun _ _ => rfl,
  fun _ _ _ _ => rfl,
  fun _ _ _ _ => rfl,
  fun _ _ _ _ _ => rfl,
  fun _ _ _ _ => rfl,
  fun _ _ => rfl,
  fun _ _ _ _ => rfl,
  fun _ _ => rfl⟩
theorem nf_law (P : Params) : NFacts (kLaw PySem.Challenge.pw_uc0024_01 P) :=
  ⟨rfl, rfl, rfl, rfl, ⟨_, rfl⟩, ⟨_, rfl⟩, rfl, rfl, rfl, rfl, rfl, rfl, rfl, rfl, rfl, rfl, rfl, rfl, rfl, rfl, rfl, rfl, rfl, rfl, rfl, rfl, rfl, rfl, rfl, rfl, rfl, rfl, rfl⟩
theorem qf_law (P : Params) : QnF (kLaw PySem.Challenge.pw_uc0024_01 P) :=
  ⟨rfl, rfl, rfl, rfl, rfl, rfl, rfl, rfl, rfl, rfl, rfl, rfl, rfl, rfl, fun D e => by subst e; rfl, rfl, rfl, rfl, rfl⟩
theorem no_law (P : Params) : (kLaw PySem.Challenge.pw_uc0024_01 P).lookup 221 = none := rfl
theorem hd_law (P : Params) : codeHdIn (kLaw PySem.Challenge.pw_uc0024_01 P) 225 221 = true := rfl

/-- the law alone -/
def qvOf (p : Program) : Program := { p with main := { p.main with body := p.main.body.drop 30 } }
def looseNames : List Str := ["insort_right", "bisect_right", "insort_left", "bisect_left", "ENDMARKER", "NT_OFFSET", "ISTERMINAL", "ISNONTERMINAL", "ISEOF", "QName", "_raise_serialization_error", "_escape_cdata", "_escape_attrib", "_escape_attrib_html", "_escape_cdata_c14n", "_escape_attrib_c14n", "_law_cells", "_law_hand", "_law_text", "_law_bare", "_law_rows", "_law_twice", "_law_alike", "_law_seen", "_law_periods", "_law_written"]
theorem left_boot {p q : Program} {loose : List Str} {Xt : Shared → Bool} {α : Type} {Yf : Shared → α} {Ya : World → α} {N : Nat} (e : opening p = plainProg p.main.scope.names) (hN : Nat.ble 600 N = true) (f : ∀ s, fenceModules? p s = some s)
    (run : ∀ (w : World) (os : OsState), (topFrom treeTable p w N ⟨boot_heap w.params, Array.mk [], boot_drawn, boot_toks, os⟩).map (fun s => (openSeen q loose (importedModules p.main.body) Xt true s, Yf s)) = some (openGood q loose, Ya w)) : LeftO p q loose Xt Yf Ya N := fun w => by
  obtain ⟨⟨h, gs, d, k, os⟩, e1, e2⟩ := Option.map_eq_some_iff.mp (boot_open e hN f w)
  obtain ⟨rfl, rfl, rfl, rfl⟩ : h = boot_heap w.params ∧ gs = Array.mk [] ∧ d = boot_drawn ∧ k = boot_toks := by simpa using e2
  have := run w os
  unfold openEnds
  rw [e1]
  exact this
/-- this asks for the program's quick form -/
theorem quick : (PySem.Challenge.pw_uc0024_01.main.body.length == 31) = true := by k_qdec
theorem run_law (w : World) (os : OsState) : (topFrom treeTable PySem.Challenge.pw_uc0024_01 w 2732 ⟨boot_heap w.params, Array.mk [], boot_drawn, boot_toks, os⟩).map (fun s => (openSeen (qvOf PySem.Challenge.pw_uc0024_01) looseNames (importedModules PySem.Challenge.pw_uc0024_01.main.body) (fun s => xlAt (qvOf PySem.Challenge.pw_uc0024_01) [] s && recOk [] s) true s, (kAds.map s.heap.get?, [221].map s.heap.get?))) =
    some (openGood (qvOf PySem.Challenge.pw_uc0024_01) looseNames, ((kLaw PySem.Challenge.pw_uc0024_01 w.params).map fun p => some p.2, ([221] : List Addr).map fun _ => some (tabObj #[]))) := by
  unfold topFrom
  rw [Fast.te14082659384304107361, Fast.te14364793385576792824, Fast.te4187177175401517315, Fast.te17177959016336290250]
  kernel_rfl
end PL

end

open PySem PySem.W PyProof.Rows
set_option maxHeartbeats 8000000 in
theorem PySem.Challenge.cw_uc0024_01_holds : PySem.Challenge.rw_uc0024_01.Holds := by
  w_on; o_law
  refine holds_open (q := PL.qvOf PySem.Challenge.pw_uc0024_01) (loose := PL.looseNames) (Xt := fun s => xlAt (PL.qvOf PySem.Challenge.pw_uc0024_01) [] s && recOk [] s) (XP := XL (PL.qvOf PySem.Challenge.pw_uc0024_01) []) (Yf := Hook.obs PL.hkLaw) (Ya := Hook.val PL.hkLaw) (YP := Hook.says PL.hkLaw) (N := 2732) ?hl (Hook.of PL.hkLaw) (Hook.keeps PL.hkLaw) (fun s e => xl_of s (Bool.and_eq_true_iff.mp e).1) XL.keeps (by rfl) (by rfl) (by rfl) (fun s e => recFacts_of (Bool.and_eq_true_iff.mp e).2) (by rfl) (by assumption) (by decide +kernel) ⟨rfl, rfl, rfl, rfl, rfl, by decide +kernel⟩ ?hw ?hc
  case hw => w_witness2
  case hl => exact PL.left_boot rfl rfl (fun _ => rfl) PL.run_law
  case hc =>
    intro w s₀ s₁ mg mb G Y fa o pm cd doc dV kV ho hd hcd hD hmg hg args vals as hpre hlay hrd hwl hlo
    have KX := km_in_of (K := PL.kLaw PySem.Challenge.pw_uc0024_01) (as := PL.kAds) (e := fun _ => rfl) (ts := [221]) Y
    have KT := km_tabs_of (K := PL.kLaw PySem.Challenge.pw_uc0024_01) (as := PL.kAds) (e := fun _ => rfl) (ts := [221]) Y
    have T := Ground.T G
    clear ho hd hcd hD
    wrow_args hpre hlay hrd hwl hlo
    rename_i ns _ _ _ _ _ _ _ D items _ hL _ _ _ hI _ _ _
    refine PL.finish KX KT T hmg hg hL hI (by omega) (PL.kf_law w.params) (PL.nf_law w.params) (PL.qf_law w.params) (PL.no_law w.params) (PL.hd_law w.params) ?_ ?_
    · refine raisesW_false ?_; wrow_none_raised
    · wrow_post
