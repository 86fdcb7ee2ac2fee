import PyProof.Rows.All
import PyProof.IsiStr
import PyProof.IsiH_list
import PyProof.StrReplace2
import KE.KTops
import Open.Tops
import Wide.FinOn
import OpenK.AllK
import Wide.All
import Lean
import PySem.Challenge.RW_ta0049_01
set_option Elab.async false
set_option linter.all false
section
open PySem PySem.W PySem.Calls PyProof.Rows
namespace Mine
structure PM where
  f : Addr → Option Obj
  hi : Nat
structure LeF (F F' : PM) : Prop where
  f : ∀ a o, F.f a = some o → F'.f a = some o
  hi : F.hi ≤ F'.hi
noncomputable def SubF (F : PM) (h : Heap) : Prop := ∀ a o, F.f a = some o → h.get? a = some o
noncomputable def Kp (h h' : Heap) : Prop := ∀ b o, h.get? b = some o → h'.get? b = some o
theorem LeF.refl (F : PM) : LeF F F := ⟨fun _ _ e => e, Nat.le_refl _⟩
theorem LeF.trans {F F' F'' : PM} (x : LeF F F') (y : LeF F' F'') : LeF F F'' := ⟨fun a o e => y.f a o (x.f a o e), Nat.le_trans x.hi y.hi⟩
theorem Kp.refl (h : Heap) : Kp h h := fun _ _ e => e
theorem Kp.trans {h h' h'' : Heap} (x : Kp h h') (y : Kp h' h'') : Kp h h'' := fun a o e => y a o (x a o e)
theorem Kp.push (h : Heap) (o : Obj) : Kp h (h.push o) := fun _ _ e => Heap.get?_push_of_some _ e
inductive IV where
  | none
  | bool (b : Bool)
  | int (i : Int)
  | str (x : Str)
  | strC (x : Str)
  | strB (x : Str) (T : Nat)
  | strN (x : Str) (T : Nat)
inductive IR (hi : Nat) : Value → IV → Prop
  | none : IR hi .none .none
  | bool (b : Bool) : IR hi (.bool b) (.bool b)
  | int (i : Int) (t : Tok) : IR hi (.int i t) (.int i)
  | str (x : Str) (t : Tok) : IR hi (.str x t) (.str x)
  | strC (x : Str) (t : Tok) : 0 < t → t < hi → IR hi (.str x t) (.strC x)
  | strB (x : Str) (t : Tok) (T : Nat) : 0 < t → t < T → IR hi (.str x t) (.strB x T)
  | strN (x : Str) (t : Tok) (T : Nat) : 0 < T → T ≤ t → IR hi (.str x t) (.strN x T)
theorem IR.mono {hi hi' : Nat} {v : Value} {i : IV} (h : IR hi v i) (x : hi ≤ hi') : IR hi' v i := by
  cases h with
  | none => exact .none
  | bool b => exact .bool b
  | int i t => exact .int i t
  | str x t => exact .str x t
  | strC x t h0 h => exact .strC x t h0 (Nat.lt_of_lt_of_le h ‹_›)
  | strB x t T h0 h => exact .strB x t T h0 h
  | strN x t T h0 h => exact .strN x t T h0 h
inductive PV where
  | imm (i : IV)
  | list (l : List IV)
  | tup (l : List IV)
  | val (v : Value)
  | slc (lo hi st : Option Int)
  | rng (lo hi : Int)
  | lists (ls : List (List IV))
noncomputable abbrev PV.int (i : Int) : PV := .imm (.int i)
noncomputable abbrev PV.str (x : Str) : PV := .imm (.str x)
noncomputable abbrev PV.bool (b : Bool) : PV := .imm (.bool b)
noncomputable abbrev PV.none : PV := .imm .none
noncomputable abbrev PV.strs (l : List Str) : PV := .list (l.map IV.str)
noncomputable abbrev PV.ints (l : List Int) : PV := .list (l.map IV.int)
noncomputable abbrev listObj (vs : List Value) (n : Nat) : Obj := { cls := .type "list", data := .seq vs.toArray n }
noncomputable abbrev slcObj (l u st : Value) : Obj := { cls := .type "slice", data := .fields #[l, u, st] }
noncomputable abbrev rngObj (a b : Int) (t u v : Tok) : Obj := { cls := .type "range", data := .fields #[.int a t, .int b u, .int 1 v] }
noncomputable abbrev tupObj (vs : List Value) (n : Nat) : Obj := { cls := .type "tuple", data := .seq vs.toArray n }
theorem Paired.imp {α β : Type} {R R' : α → β → Prop} (x : ∀ a b, R a b → R' a b) : ∀ {l : List α} {l' : List β}, Paired R l l' → Paired R' l l'
  | _, _, .nil => .nil
  | _, _, .cons h t => .cons (x _ _ h) (Paired.imp x t)
inductive RV (F : PM) : Value → PV → Prop
  | imm {v : Value} {i : IV} : IR F.hi v i → RV F v (.imm i)
  | list {a : Addr} {vs : List Value} {n : Nat} {l : List IV} : F.f a = some (listObj vs n) → Paired (IR F.hi) vs l → RV F (.ref a) (.list l)
  | tup {a : Addr} {vs : List Value} {n : Nat} {l : List IV} : F.f a = some (tupObj vs n) → Paired (IR F.hi) vs l → RV F (.ref a) (.tup l)
  | val (v : Value) : RV F v (.val v)
  | slc {a : Addr} {l u st : Value} {lo hi s : Option Int} : F.f a = some (slcObj l u st) → IsPart l lo → IsPart u hi → IsPart st s → RV F (.ref a) (.slc lo hi s)
  | rng {a : Addr} {lo hi : Int} {t u v : Tok} : F.f a = some (rngObj lo hi t u v) → RV F (.ref a) (.rng lo hi)
  | lists {a : Addr} {bs : List Addr} {n : Nat} {ls : List (List IV)} : F.f a = some (listObj (bs.map Value.ref) n) → Paired (fun b l => ∃ vs n, F.f b = some (listObj vs n) ∧ Paired (IR F.hi) vs l) bs ls → RV F (.ref a) (.lists ls)
theorem RV.mono {F F' : PM} {v : Value} {p : PV} (h : RV F v p) (x : LeF F F') : RV F' v p := by
  cases h with
  | imm h => exact .imm (h.mono x.hi)
  | list h k => exact .list (x.f _ _ h) (Paired.imp (fun _ _ r => r.mono x.hi) k)
  | tup h k => exact .tup (x.f _ _ h) (Paired.imp (fun _ _ r => r.mono x.hi) k)
  | val v => exact .val v
  | slc h a b c => exact .slc (x.f _ _ h) a b c
  | rng h => exact .rng (x.f _ _ h)
  | lists h k => exact .lists (x.f _ _ h) (Paired.imp (fun _ _ ⟨vs, n, e, q⟩ => ⟨vs, n, x.f _ _ e, Paired.imp (fun _ _ r => r.mono x.hi) q⟩) k)
structure Up (F : PM) (s : Shared) (F' : PM) (h' : Heap) (tk : Nat) : Prop where
  le : LeF F F'
  sub : SubF F' h'
  keep : Kp s.heap h'
  new : ∀ a o, F'.f a = some o → F.f a = some o ∨ s.heap.get? a = none
  hi : F'.hi ≤ tk
  mono : s.toks ≤ tk
theorem Up.trans {F F' F'' : PM} {s : Shared} {h' h'' : Heap} {tk tk' : Nat} (x : Up F s F' h' tk) (y : Up F' { s with heap := h', toks := tk } F'' h'' tk') : Up F s F'' h'' tk' where
  le := x.le.trans y.le
  sub := y.sub
  keep := x.keep.trans y.keep
  new := fun a o e => by
    rcases y.new a o e with q | q
    · exact x.new a o q
    · refine .inr ?_
      cases e' : s.heap.get? a with
      | none => rfl
      | some o' => have := x.keep a o' e'; rw [show h'.get? a = none from q] at this; cases this
  hi := y.hi
  mono := Nat.le_trans x.mono y.mono
noncomputable def addF (F : PM) (a : Addr) (o : Obj) : PM := ⟨fun b => if b = a then some o else F.f b, F.hi⟩
theorem Up.kept {F : PM} {s : Shared} {h' : Heap} {tk : Nat} (x : SubF F s.heap) (k : Kp s.heap h') (h1 : F.hi ≤ s.toks) (h2 : s.toks ≤ tk) : Up F s F h' tk :=
  ⟨LeF.refl _, fun a o e => k a o (x a o e), k, fun _ _ e => .inl e, Nat.le_trans h1 h2, h2⟩
theorem Up.add {F : PM} {s : Shared} {h' : Heap} {tk : Nat} {a : Addr} {o : Obj} (x : SubF F s.heap) (k : Kp s.heap h') (hn : s.heap.get? a = none) (ha : h'.get? a = some o) (h1 : F.hi ≤ s.toks) (h2 : s.toks ≤ tk) : Up F s (addF F a o) h' tk where
  le := ⟨fun b ob e => by
    show (if b = a then some o else F.f b) = some ob
    by_cases q : b = a
    · subst q; rw [x _ _ e] at hn; cases hn
    · rw [if_neg q]; exact e, Nat.le_refl _⟩
  sub := fun b ob e => by
    have e : (if b = a then some o else F.f b) = some ob := e
    by_cases q : b = a
    · subst q; rw [if_pos rfl] at e; cases e; exact ha
    · rw [if_neg q] at e; exact k _ _ (x _ _ e)
  keep := k
  new := fun b ob e => by
    have e : (if b = a then some o else F.f b) = some ob := e
    by_cases q : b = a
    · subst q; exact .inr hn
    · rw [if_neg q] at e; exact .inl e
  hi := Nat.le_trans h1 h2
  mono := h2
theorem addF_self (F : PM) (a : Addr) (o : Obj) : (addF F a o).f a = some o := by show (if a = a then some o else F.f a) = some o; rw [if_pos rfl]
theorem get_size (h : Heap) : h.get? h.objs.size = none := by
  cases e : h.get? h.objs.size with
  | none => rfl
  | some o => exact absurd (Heap.lt_size e) (Nat.lt_irrefl _)
theorem Up.push {F : PM} {s : Shared} {tk : Nat} (x : SubF F s.heap) (o : Obj) (h1 : F.hi ≤ s.toks) (h2 : s.toks ≤ tk) (hf : o.isFreed = false := by rfl) : Up F s (addF F s.heap.objs.size o) (s.heap.push o) tk :=
  Up.add x (Kp.push _ _) (get_size _) (Heap.get?_push_size _ hf) h1 h2
noncomputable def cntF (F : PM) (n : Nat) : PM := ⟨F.f, max F.hi n⟩
theorem Up.count {F F' : PM} {s : Shared} {h' : Heap} {tk n : Nat} (u : Up F s F' h' tk) (hn : n ≤ tk) : Up F s (cntF F' n) h' tk where
  le := ⟨u.le.f, Nat.le_trans u.le.hi (Nat.le_max_left _ _)⟩
  sub := u.sub
  keep := u.keep
  new := u.new
  hi := Nat.max_le.mpr ⟨u.hi, hn⟩
  mono := u.mono
structure FnRec where
  addr : Addr
  name : Str
  params : Arguments
  body : List Stmt
  scope : Scope
noncomputable def FnAt (h : Heap) (d : FnRec) : Prop := ∃ fo doc pm an cdv ct, h.get? d.addr = some fo ∧ fo.data = .func (fnX d.name d.name d.params d.body d.scope [] .none .none doc pm an cdv ct) ∧ h.CodeRec cdv d.name
structure TopInfo where
  glob : List (Str × Option Value)
  blt : List (Str × Value)
  fns : List FnRec
  objs : List (Addr × Obj)
  tabs : List (Addr × List (Int × Str))
  sets : List (Addr × (Int → Bool) × Nat)
  txts : List (Str × Str)
  pats : List (Addr × Array Nat)
structure PatAt (h : Heap) (a : Addr) (code : Array Nat) : Prop where
  at' : ∃ o fs b o2 vs n, h.get? a = some o ∧ o.cls = .type "re.Pattern" ∧ o.dict = none ∧ o.data = .fields fs ∧ Builtin.Re.reRawNat (fs.getD 6 .none) = 0 ∧ Builtin.Re.reRawNat (fs.getD 2 .none) = 0 ∧ fs.getD 5 .none = .ref b ∧ h.get? b = some o2 ∧ o2.data = .seq vs n ∧ (vs.map Builtin.Re.reRawOf).map (·.toNat) = code
theorem PatAt.keep {h h' : Heap} {a : Addr} {code : Array Nat} (x : PatAt h a code) (k : ∀ b o, h.get? b = some o → h'.get? b = some o) : PatAt h' a code := by
  obtain ⟨o, fs, b, o2, vs, n, h1, h2, h3, h4, h5, h6, h7, h8, h9⟩ := x.at'
  exact ⟨o, fs, b, o2, vs, n, k _ _ h1, h2, h3, h4, h5, h6, h7, k _ _ h8, h9⟩
structure GB (I : TopInfo) (h : Heap) : Prop where
  nolim : h.NoLimit
  g : ∃ mg, h.Ns mainGlobals mg ∧ ∀ p ∈ I.glob, mg p.1 = p.2
  b : ∃ mb, h.Ns builtinsNs mb ∧ ∀ p ∈ I.blt, mb p.1 = some p.2
  fns : ∀ d ∈ I.fns, FnAt h d
  objs : ∀ p ∈ I.objs, h.get? p.1 = some p.2
  nb : NoneBooked h
  tabs : ∀ p ∈ I.tabs, KTD.Keyed h p.1 (p.2.map fun q => (q.1, PyData.str q.2))
  sets : ∀ p ∈ I.sets, ∃ o, h.get? p.1 = some o ∧ o.IntSetOf p.2.1 p.2.2 ∧ p.2.2 < scanBound
  txts : ∃ mg, h.Ns mainGlobals mg ∧ ∀ p ∈ I.txts, ∃ t, mg p.1 = some (.str p.2 t)
  pats : ∀ p ∈ I.pats, PatAt h p.1 p.2
theorem GB.keeps {I : TopInfo} {h h' : Heap} (x : GB I h) (k : Kp h h') : GB I h' where
  nolim := x.nolim.keeps k
  g := let ⟨mg, a, b⟩ := x.g; ⟨mg, a.keeps k, b⟩
  b := let ⟨mb, a, b⟩ := x.b; ⟨mb, a.keeps k, b⟩
  fns := fun d hd => let ⟨fo, doc, pm, an, cdv, ct, a, b, c⟩ := x.fns d hd; ⟨fo, doc, pm, an, cdv, ct, k _ _ a, b, c.keeps k⟩
  objs := fun p hp => k _ _ (x.objs p hp)
  nb := let ⟨mc, a, b⟩ := x.nb; ⟨mc, a.keeps k, b⟩
  tabs := fun p hp => (x.tabs p hp).keep k
  sets := fun p hp => let ⟨o, a, b⟩ := x.sets p hp; ⟨o, k _ _ a, b⟩
  txts := let ⟨mg, a, b⟩ := x.txts; ⟨mg, a.keeps k, b⟩
  pats := fun p hp => (x.pats p hp).keep k
structure Room (n : Nat) (A : Around) : Prop where
  handled : A.handled = none
  depth : A.depth + n < recursionLimit
  units : A.units + 100 + 10 * n < cLine
theorem Room.deeper {n : Nat} {A : Around} {env : Env} (r : Room (n + 1) A) : Room n (A.deeper env) :=
  ⟨r.handled, by have := r.depth; show A.depth + 1 + n < _; omega, by have := r.units; show A.units + 3 + 100 + 10 * n < _; omega⟩
theorem Room.le {n m : Nat} {A : Around} (r : Room n A) (h : m ≤ n) : Room m A :=
  ⟨r.handled, by have := r.depth; omega, by have := r.units; omega⟩
end Mine
end
section
open PySem PySem.W PySem.Calls PyProof.Rows
namespace Mine
structure Cx where
  prog : Program
  w : World
  A : Around
  env : Env
  k : Nat
  I : TopInfo
  lo : Nat
structure EnvOK (env : Env) : Prop where
  kind : env.scope.kind = .function
  globals : env.globals = mainGlobals
  builtins : env.builtins = builtinsNs
noncomputable abbrev Rho := List (Str × PV)
noncomputable def VarIs (env : Env) (m : Str → Option Value) (h : Heap) (x : Str) (v : Value) : Prop :=
  (env.kindOf x = some .local ∧ m x = some v) ∨ (env.kindOf x = some .cell ∧ ∃ c, env.cells.lookup x = some c ∧ h.IsCell c (some v))
noncomputable def Vars (env : Env) (F : PM) (ρ : Rho) (h : Heap) : Prop :=
  ∃ m, h.Ns env.locals m ∧ ∀ x p, ρ.lookup x = some p → ∃ v, VarIs env m h x v ∧ RV F v p
theorem isCell_keeps {h h' : Heap} {c : Addr} {v : Option Value} (x : h.IsCell c v) (k : Kp h h') : h'.IsCell c v := let ⟨o, a, b⟩ := x; ⟨o, k _ _ a, b⟩
theorem VarIs.keeps {env : Env} {m : Str → Option Value} {h h' : Heap} {x : Str} {v : Value} (y : VarIs env m h x v) (k : Kp h h') : VarIs env m h' x v :=
  y.imp id fun ⟨a, c, b, d⟩ => ⟨a, c, b, isCell_keeps d k⟩
theorem Vars.up {env : Env} {F F' : PM} {ρ : Rho} {s : Shared} {h' : Heap} {tk : Nat} (y : Vars env F ρ s.heap) (u : Up F s F' h' tk) : Vars env F' ρ h' :=
  let ⟨m, a, b⟩ := y
  ⟨m, a.keeps u.keep, fun x p e => let ⟨v, c, d⟩ := b x p e; ⟨v, c.keeps u.keep, d.mono u.le⟩⟩
structure Pre (c : Cx) (F : PM) (s : Shared) : Prop where
  room : Room c.k c.A
  gb : GB c.I s.heap
  sub : SubF F s.heap
  hi : F.hi ≤ s.toks
  lo : c.lo ≤ s.toks
  lo0 : 0 < c.lo
theorem Pre.up {c : Cx} {F F' : PM} {s : Shared} {h' : Heap} {tk : Nat} (P : Pre c F s) (u : Up F s F' h' tk) : Pre c F' { s with heap := h', toks := tk } :=
  ⟨P.room, P.gb.keeps u.keep, u.sub, u.hi, Nat.le_trans P.lo u.mono, P.lo0⟩
theorem Pre.refl {c : Cx} {F : PM} {s : Shared} (P : Pre c F s) : Up F s F s.heap s.toks := Up.kept P.sub (Kp.refl _) P.hi (Nat.le_refl _)
theorem Pre.tick {c : Cx} {F : PM} {s : Shared} (P : Pre c F s) (n : Nat) : Up F s F s.heap (s.toks + n) := Up.kept P.sub (Kp.refl _) P.hi (Nat.le_add_right _ _)
theorem Pre.push {c : Cx} {F : PM} {s : Shared} (P : Pre c F s) (o : Obj) (hf : o.isFreed = false := by rfl) : Up F s (addF F s.heap.objs.size o) (s.heap.push o) s.toks := Up.push P.sub o P.hi (Nat.le_refl _) hf
noncomputable def Post (F : PM) (s : Shared) (p : PV) (Q : Value → Shared → Prop) : Prop :=
  ∀ v F' h' tk, Up F s F' h' tk → RV F' v p → Q v { s with heap := h', toks := tk }
noncomputable def Gv (c : Cx) (F : PM) (s : Shared) (t : Sem Value) (p : PV) : Prop := ∀ Q E, Post F s p Q → wpAny (model c.prog c.w) c.A t Q E s
noncomputable def PostL (F : PM) (s : Shared) (ps : List PV) (Q : List Value → Shared → Prop) : Prop :=
  ∀ vs F' h' tk, Up F s F' h' tk → Paired (RV F') vs ps → Q vs { s with heap := h', toks := tk }
noncomputable def GvL (c : Cx) (F : PM) (s : Shared) (t : Sem (List Value)) (ps : List PV) : Prop := ∀ Q E, PostL F s ps Q → wpAny (model c.prog c.w) c.A t Q E s
noncomputable def PostB (F : PM) (s : Shared) (b : Bool) (Q : Bool → Shared → Prop) : Prop :=
  ∀ F' h' tk, Up F s F' h' tk → Q b { s with heap := h', toks := tk }
noncomputable def GvB (c : Cx) (F : PM) (s : Shared) (t : Sem Bool) (b : Bool) : Prop := ∀ Q E, PostB F s b Q → wpAny (model c.prog c.w) c.A t Q E s
theorem RVs.mono {F F' : PM} (x : LeF F F') : ∀ {vs : List Value} {ps : List PV}, Paired (RV F) vs ps → Paired (RV F') vs ps
  | _, _, .nil => .nil
  | _, _, .cons a t => .cons (a.mono x) (RVs.mono x t)
@[irreducible] noncomputable def EV (c : Cx) (ρ : Rho) (e : Expr) (p : PV) : Prop := ∀ F s, Pre c F s → Vars c.env F ρ s.heap → Gv c F s (eval e c.env) p
@[irreducible] noncomputable def EVs (c : Cx) (ρ : Rho) (es : List Expr) (ps : List PV) : Prop := ∀ F s pos, Pre c F s → Vars c.env F ρ s.heap → GvL c F s (spliced (backTo pos (starEach es c.env))) ps
@[irreducible] noncomputable def EB (c : Cx) (ρ : Rho) (e : Expr) (b : Bool) : Prop := ∀ F s, Pre c F s → Vars c.env F ρ s.heap → GvB c F s (isTrue e c.env (eval e c.env)) b
@[irreducible] noncomputable def BinOK (c : Cx) (op : Operator) (a b p : PV) : Prop := ∀ F s va vb, Pre c F s → RV F va a → RV F vb b → Gv c F s (binaryOp op va vb) p
@[irreducible] noncomputable def InpOK (c : Cx) (op : Operator) (a b p : PV) : Prop := ∀ F s va vb, Pre c F s → RV F va a → RV F vb b → Gv c F s (inplaceOp op va vb) p
@[irreducible] noncomputable def CmpOK (c : Cx) (op : CmpOp) (a b p : PV) : Prop := ∀ F s va vb, Pre c F s → RV F va a → RV F vb b → Gv c F s (compareOp op va vb) p
@[irreducible] noncomputable def UnOK (c : Cx) (op : UnaryOp) (a p : PV) : Prop := ∀ F s va, Pre c F s → RV F va a → Gv c F s (unaryOp op va) p
@[irreducible] noncomputable def CallOK (c : Cx) (f : Value) (ps : List PV) (p : PV) : Prop := ∀ F s vs, Pre c F s → Paired (RV F) vs ps → Gv c F s (call f vs) p
@[irreducible] noncomputable def ItemOK (c : Cx) (a b p : PV) : Prop := ∀ F s va vb, Pre c F s → RV F va a → RV F vb b →
  ∀ Q E, Post F s p Q → (∃ T id, typeLookup (.type T) "__getitem__" = pure (some (.builtin id)) ∧ s.TypeIs va T) ∧ wpAny (model c.prog c.w) c.A (getItem va vb) Q E s
@[irreducible] noncomputable def TrueOK (c : Cx) (a : PV) (b : Bool) : Prop := ∀ F s va, Pre c F s → RV F va a → GvB c F s (truthy va) b
section
variable {c : Cx} {ρ : Rho}
theorem kindOf_ne_debug {x : Str} (h : (x == ("__debug__" : Str)) = false) : (x == ("__debug__" : Str)) = false := h
theorem ev_var {x : Str} {pos : Pos} {p : PV} (hv : ρ.lookup x = some p) (hk : EnvOK c.env) (hd : (x == ("__debug__" : Str)) = false) : EV c ρ (.Name x pos) p := by with_unfolding_all
  intro F s P V Q E hQ
  obtain ⟨m, hn, hm⟩ := V
  obtain ⟨v, hv, hr⟩ := hm x p hv
  refine wpAny_Name ?_ hd
  have fin : Q v s := hQ v F s.heap s.toks (P.refl) hr
  rcases hv with ⟨hl, he⟩ | ⟨hl, cc, hc, hv⟩
  · exact wpAny_loadName_local hk.kind hl hn he fin
  · exact wpAny_loadName_cell hk.kind hl hc hv fin
theorem ev_glob {x : Str} {pos : Pos} {u : Value} (hk : EnvOK c.env) (hl : c.env.kindOf x = some .globalImplicit) (hg : (x, some u) ∈ c.I.glob) (hd : (x == ("__debug__" : Str)) = false) : EV c ρ (.Name x pos) (.val u) := by with_unfolding_all
  intro F s P _ Q E hQ
  obtain ⟨mg, hn, hm⟩ := P.gb.g
  exact Name_function_global hk.kind hl (loadGlobal_global (env := c.env) (hk.globals ▸ hn) (hm _ hg) (hQ u F s.heap s.toks (P.refl) (.val u))) hd
theorem ev_globS {x y : Str} {pos : Pos} (hk : EnvOK c.env) (hl : c.env.kindOf x = some .globalImplicit) (hg : (x, y) ∈ c.I.txts) (hd : (x == ("__debug__" : Str)) = false) : EV c ρ (.Name x pos) (.str y) := by with_unfolding_all
  intro F s P _ Q E hQ
  obtain ⟨mg, hn, hm⟩ := P.gb.txts
  obtain ⟨t, ht⟩ := hm _ hg
  exact Name_function_global hk.kind hl (loadGlobal_global (env := c.env) (hk.globals ▸ hn) ht (hQ _ F s.heap s.toks (P.refl) (.imm (.str y t)))) hd
theorem ev_blt {x : Str} {pos : Pos} {u : Value} (hk : EnvOK c.env) (hl : c.env.kindOf x = some .globalImplicit) (hg : (x, (none : Option Value)) ∈ c.I.glob) (hb : (x, u) ∈ c.I.blt) (hd : (x == ("__debug__" : Str)) = false) : EV c ρ (.Name x pos) (.val u) := by with_unfolding_all
  intro F s P _ Q E hQ
  obtain ⟨mg, hn, hm⟩ := P.gb.g
  obtain ⟨mb, hnb, hmb⟩ := P.gb.b
  exact Name_function_global hk.kind hl (loadGlobal_builtin (env := c.env) (hk.globals ▸ hn) (hm _ hg) (hk.builtins ▸ hnb) (hmb _ hb) (hQ u F s.heap s.toks (P.refl) (.val u))) hd
theorem ev_int {i : Int} {k : Nat} {pos : Pos} : EV c ρ (.Constant (.int i) k pos) (.int i) := by with_unfolding_all exact (fun F s P _ _ _ hQ =>
  wpAny_Constant_int (hQ _ F s.heap _ (P.tick 1) (.imm (.int i _))))
theorem ev_str {x : Str} {k : Nat} {pos : Pos} : EV c ρ (.Constant (.str x) k pos) (.str x) := by with_unfolding_all exact (fun F s P _ _ _ hQ =>
  Constant_str (hQ _ F s.heap _ (P.tick 1) (.imm (.str x _))))
theorem ev_none {k : Nat} {pos : Pos} : EV c ρ (.Constant .none k pos) .none := by with_unfolding_all exact (fun F s P _ Q _ hQ =>
  fun _ _ _ => (hQ .none F s.heap s.toks (P.refl) (.imm .none) : Q .none s))
theorem ev_bool {b : Bool} {k : Nat} {pos : Pos} : EV c ρ (.Constant (.bool b) k pos) (.bool b) := by with_unfolding_all exact (fun F s P _ Q _ hQ =>
  fun _ _ _ => (hQ (.bool b) F s.heap s.toks (P.refl) (.imm (.bool b)) : Q (.bool b) s))
theorem two {l r : Expr} {a b : PV} {t : Value → Value → Sem Value} {p : PV} (hl : EV c ρ l a) (hr : EV c ρ r b)
    (ht : ∀ F s va vb, Pre c F s → RV F va a → RV F vb b → Gv c F s (t va vb) p) {F : PM} {s : Shared} (P : Pre c F s) (V : Vars c.env F ρ s.heap) {Q E} (hQ : Post F s p Q) :
    wpAny (model c.prog c.w) c.A (eval l c.env) (fun x s₁ => wpAny (model c.prog c.w) c.A (eval r c.env) (fun y s₂ => wpAny (model c.prog c.w) c.A (t x y) Q E s₂) E s₁) E s := by with_unfolding_all
  refine hl F s P V _ _ fun va F₁ h₁ tk₁ u₁ ra => ?_
  refine hr F₁ _ (P.up u₁) (V.up u₁) _ _ fun vb F₂ h₂ tk₂ u₂ rb => ?_
  exact ht F₂ _ va vb ((P.up u₁).up u₂) (ra.mono u₂.le) rb _ _ fun v F₃ h₃ tk₃ u₃ rv => hQ v F₃ h₃ tk₃ ((u₁.trans u₂).trans u₃) rv
theorem ev_bin {l r : Expr} {op : Operator} {pos : Pos} {a b p : PV} (hl : EV c ρ l a) (hr : EV c ρ r b) (ho : BinOK c op a b p) : EV c ρ (.BinOp l op r pos) p := by with_unfolding_all exact (fun _ _ P V _ _ hQ => wpAny_BinOp (two hl hr ho P V hQ))
theorem ev_cmp {l r : Expr} {op : CmpOp} {pos : Pos} {a b p : PV} (hl : EV c ρ l a) (hr : EV c ρ r b) (ho : CmpOK c op a b p) (hm : behindInMarks op r = false) : EV c ρ (.Compare l [op] [r] pos) p := by with_unfolding_all exact (fun _ _ P V _ _ hQ => wpAny_Compare1 (two hl hr ho P V hQ) hm)
theorem ev_un {x : Expr} {op : UnaryOp} {pos : Pos} {a p : PV} (hx : EV c ρ x a) (ho : UnOK c op a p) : EV c ρ (.UnaryOp op x pos) p := by with_unfolding_all
  intro F s P V Q E hQ
  show wpAny _ _ (do let v ← eval x c.env; standAt pos; holding [v] (unaryOp op v)) Q E s
  refine wpAny_bind (hx F s P V _ _ fun va F₁ h₁ tk₁ u₁ ra => wpAny_bind (wpAny_standAt (wpAny_holding ?_)))
  exact ho F₁ _ va (P.up u₁) ra _ _ fun v F₂ h₂ tk₂ u₂ rv => hQ v F₂ h₂ tk₂ (u₁.trans u₂) rv
theorem eb_cmp {l r : Expr} {op : CmpOp} {pos : Pos} {a b : PV} {t : Bool} (hl : EV c ρ l a) (hr : EV c ρ r b) (ho : CmpOK c op a b (.bool t)) (hm : behindInMarks op r = false) : EB c ρ (.Compare l [op] [r] pos) t := by with_unfolding_all
  intro F s P V Q E hQ
  refine wpAny_isTrue_Compare1 ?_ hm
  refine hl F s P V _ _ fun va F₁ h₁ tk₁ u₁ ra => ?_
  refine hr F₁ _ (P.up u₁) (V.up u₁) _ _ fun vb F₂ h₂ tk₂ u₂ rb => ?_
  refine ho F₂ _ va vb ((P.up u₁).up u₂) (ra.mono u₂.le) rb _ _ fun v F₃ h₃ tk₃ u₃ rv => ?_
  cases rv with
  | imm hv => cases hv with
    | bool _ => exact wpAny_truthy_bool (hQ F₃ h₃ tk₃ ((u₁.trans u₂).trans u₃))
theorem eb_not {x : Expr} {pos : Pos} {t : Bool} (hx : EB c ρ x t) : EB c ρ (.UnaryOp .Not x pos) (!t) := by with_unfolding_all
  intro F s P V Q E hQ
  show wpAny _ _ (do return !(← isTrue x c.env (eval x c.env))) Q E s
  exact wpAny_bind (hx F s P V _ _ fun F₁ h₁ tk₁ u₁ => wpAny_pure (hQ F₁ h₁ tk₁ u₁))
theorem eb_ev {e : Expr} {a : PV} {t : Bool} (he : EV c ρ e a) (ht : TrueOK c a t)
    (hp : isTrue e c.env (eval e c.env) = (do let v ← eval e c.env; standAt e.pos; holding [v] (truthy v)) := by rfl) : EB c ρ e t := by with_unfolding_all
  intro F s P V Q E hQ
  rw [hp]
  refine wpAny_bind (he F s P V _ _ fun va F₁ h₁ tk₁ u₁ ra => wpAny_bind (wpAny_standAt (wpAny_holding ?_)))
  exact ht F₁ _ va (P.up u₁) ra _ _ fun F₂ h₂ tk₂ u₂ => hQ F₂ h₂ tk₂ (u₁.trans u₂)
theorem eb_or_nil {pos : Pos} : EB c ρ (.BoolOp .Or [] pos) false := by with_unfolding_all
  intro F s P V Q E hQ
  show wpAny _ _ (allTrue .Or [] c.env) Q E s
  exact wpAny_pure (hQ F s.heap s.toks (P.refl))
theorem eb_or_cons {x : Expr} {rest : List Expr} {pos : Pos} {a b : Bool} (hx : EB c ρ x a) (hr : a = false → EB c ρ (.BoolOp .Or rest pos) b) : EB c ρ (.BoolOp .Or (x :: rest) pos) (a || b) := by with_unfolding_all
  intro F s P V Q E hQ
  show wpAny _ _ (allTrue .Or (x :: rest) c.env) Q E s
  unfold allTrue
  refine wpAny_bind (hx F s P V _ _ fun F₁ h₁ tk₁ u₁ => ?_)
  cases a with
  | true => exact wpAny_pure (hQ F₁ h₁ tk₁ u₁)
  | false =>
    exact hr rfl F₁ _ (P.up u₁) (V.up u₁) _ _ fun F₂ h₂ tk₂ u₂ => hQ F₂ h₂ tk₂ (u₁.trans u₂)
theorem true_bool {b : Bool} : TrueOK c (.bool b) b := by with_unfolding_all
  intro F s va P r Q E hQ
  cases r with
  | imm h => cases h with
    | bool _ => exact wpAny_truthy_bool (hQ F s.heap s.toks (P.refl))
theorem ev_ifexp_true {t b o : Expr} {pos : Pos} {p : PV} (ht : EB c ρ t true) (hb : EV c ρ b p) : EV c ρ (.IfExp t b o pos) p := by with_unfolding_all
  intro F s P V Q E hQ
  show wpAny _ _ (do if ← isTrue t c.env (eval t c.env) then eval b c.env else eval o c.env) Q E s
  refine wpAny_bind (ht F s P V _ _ fun F₁ h₁ tk₁ u₁ => ?_)
  exact hb F₁ _ (P.up u₁) (V.up u₁) _ _ fun v F₂ h₂ tk₂ u₂ r => hQ v F₂ h₂ tk₂ (u₁.trans u₂) r
theorem ev_ifexp_false {t b o : Expr} {pos : Pos} {p : PV} (ht : EB c ρ t false) (hb : EV c ρ o p) : EV c ρ (.IfExp t b o pos) p := by with_unfolding_all
  intro F s P V Q E hQ
  show wpAny _ _ (do if ← isTrue t c.env (eval t c.env) then eval b c.env else eval o c.env) Q E s
  refine wpAny_bind (ht F s P V _ _ fun F₁ h₁ tk₁ u₁ => ?_)
  exact hb F₁ _ (P.up u₁) (V.up u₁) _ _ fun v F₂ h₂ tk₂ u₂ r => hQ v F₂ h₂ tk₂ (u₁.trans u₂) r
theorem ev_ifexp {t b o : Expr} {pos : Pos} {p : PV} {q : Bool} (ht : EB c ρ t q) (hb : q = true → EV c ρ b p) (ho : q = false → EV c ρ o p) : EV c ρ (.IfExp t b o pos) p := by
  cases q with
  | true => exact ev_ifexp_true ht (hb rfl)
  | false => exact ev_ifexp_false ht (ho rfl)
theorem evs_nil : EVs c ρ [] [] := by with_unfolding_all exact (fun F s _ P _ _ _ hQ => spliced_nil (hQ [] F s.heap s.toks (P.refl) .nil))
theorem evs_cons {e : Expr} {rest : List Expr} {p : PV} {ps : List PV} (he : EV c ρ e p) (hr : EVs c ρ rest ps) (hs : starEach (e :: rest) c.env = (false, eval e c.env) :: starEach rest c.env) : EVs c ρ (e :: rest) (p :: ps) := by with_unfolding_all
  intro F s pos P V Q E hQ
  rw [hs]
  refine spliced_cons (he F s P V _ _ fun v F₁ h₁ tk₁ u₁ r => ?_)
  exact hr F₁ _ pos (P.up u₁) (V.up u₁) _ _ fun vs F₂ h₂ tk₂ u₂ rs => hQ (v :: vs) F₂ h₂ tk₂ (u₁.trans u₂) (.cons (r.mono u₂.le) rs)
theorem plain_args {es : List Expr} {env : Env} {pos : Pos} (h : (starEach es env).all (fun x => !x.1) = true) : (backTo pos (starEach es env)).any (·.1) = false := by
  unfold backTo
  rw [List.any_map]
  rw [List.any_eq_false]
  intro x hx
  have := List.all_eq_true.mp h x hx
  simpa using this
theorem evalArgs_of {f : Value} {es : List Expr} {ps : List PV} (he : EVs c ρ es ps) (hp : (starEach es c.env).all (fun x => !x.1) = true) {F : PM} {s : Shared} (pos : Pos) (P : Pre c F s) (V : Vars c.env F ρ s.heap) {Q : Args → Shared → Prop} {E}
    (hQ : PostL F s ps fun vs s' => Q ⟨vs, []⟩ s') : wpAny (model c.prog c.w) c.A (evalArgs f true (backTo pos (starEach es c.env)) []) Q E s := by with_unfolding_all
  have h := he F s pos P V _ E hQ
  cases hq : backTo pos (starEach es c.env) with
  | nil =>
    rw [hq] at h
    unfold evalArgs
    show wpAny _ _ (spliced [] >>= _) Q E s
    refine wpAny_bind (wpAny_mono h (fun vs s' h' => ?_) fun _ _ x => x)
    refine wpAny_holding ?_
    exact wpAny_bind (wpAny_pure (wpAny_bind (wpAny_pure (wpAny_pure h'))))
  | cons x r =>
    have hx : x.1 = false := by
      have := plain_args (env := c.env) (pos := pos) hp
      rw [hq, List.any_cons, Bool.or_eq_false_iff] at this
      exact this.1
    obtain ⟨st, t⟩ := x
    cases hx
    rw [hq] at h
    exact evalArgs_plain h
theorem callWith_any {f : Value} {first : List Value} {args : List (Bool × Sem Value)} {pos : Pos} {Q E} {s : Shared} {A : Around} {M : Model} (hplain : args.any (·.1) = false)
    (hf : (∃ id, f = .builtin id) ∨ (∃ T, f = .type T) ∨ ∃ a o fd, f = .ref a ∧ s.heap.get? a = some o ∧ o.data = .func fd)
    (h : wpAny M A (evalArgs f true args []) (fun a s₁ => Kp s.heap s₁.heap ∧ wpAny M A (call f (first ++ a.pos) a.kw) Q E s₁) E s) :
    wpAny M A (callWith pos f first args []) Q E s := by
  rcases hf with ⟨id, rfl⟩ | ⟨T, rfl⟩ | ⟨a, o, fd, rfl, ho, hd⟩
  · exact callWith_builtin hplain (wpAny_mono h (fun _ _ x => x.2) fun _ _ x => x)
  · exact PySem.callWith_type hplain (wpAny_mono h (fun _ _ x => x.2) fun _ _ x => x)
  · exact callWith_function (o := o) (fd := fd) (wpAny_mono h (fun _ _ x => ⟨⟨x.1 _ _ ho, hd⟩, x.2⟩) fun _ _ x => x)
noncomputable def Callee (c : Cx) (f : Value) : Prop := (∃ id, f = .builtin id) ∨ (∃ T, f = .type T) ∨ ∃ d ∈ c.I.fns, f = .ref d.addr
theorem Callee.at {f : Value} (x : Callee c f) {h : Heap} (G : GB c.I h) : (∃ id, f = .builtin id) ∨ (∃ T, f = .type T) ∨ ∃ a o fd, f = .ref a ∧ h.get? a = some o ∧ o.data = .func fd := by
  rcases x with x | x | ⟨d, hd, rfl⟩
  · exact .inl x
  · exact .inr (.inl x)
  · obtain ⟨fo, doc, pm, an, cdv, ct, a, b, _⟩ := G.fns d hd
    exact .inr (.inr ⟨_, _, _, rfl, a, b⟩)
noncomputable def notAttr : Expr → Bool
  | .Attribute .. => false
  | _ => true
theorem ev_call {fe : Expr} {es : List Expr} {pos : Pos} {f : Value} {ps : List PV} {p : PV} (hfe : EV c ρ fe (.val f)) (he : EVs c ρ es ps) (hc : CallOK c f ps p) (hf : Callee c f)
    (hp : (starEach es c.env).all (fun x => !x.1) = true)
    (hs : eval (.Call fe es [] pos) c.env = (do callWith pos (← eval fe c.env) [] (backTo pos (starEach es c.env)) []) := by rfl) : EV c ρ (.Call fe es [] pos) p := by with_unfolding_all
  intro F s P V Q E hQ
  rw [hs]
  refine wpAny_bind (hfe F s P V _ _ fun v F₁ h₁ tk₁ u₁ r => ?_)
  cases r with
  | val _ =>
    refine callWith_any (plain_args hp) (hf.at (P.up (tk := tk₁) u₁).gb) ?_
    refine evalArgs_of he hp pos (P.up u₁) (V.up u₁) fun vs F₂ h₂ tk₂ u₂ rs => ⟨u₂.keep, ?_⟩
    exact hc F₂ _ vs ((P.up u₁).up u₂) rs _ _ fun v F₃ h₃ tk₃ u₃ rv => hQ v F₃ h₃ tk₃ ((u₁.trans u₂).trans u₃) rv
noncomputable def MethOK (c : Cx) (name : Str) (a : PV) (ps : List PV) (p : PV) : Prop := ∃ T id, PlainAttrs T ∧ Slot T name id ∧ typeOf (.builtin id) = pure (.type "method_descriptor") ∧
  ∀ F s va, Pre c F s → RV F va a → s.TypeIs va T ∧ (∀ a, va = .ref a → ∃ ob, s.heap.get? a = some ob ∧ ob.dict = none) ∧ ∀ vs, Paired (RV F) vs ps → Gv c F s (call (.builtin id) (va :: vs)) p
theorem ev_meth {o : Expr} {name : Str} {apos pos : Pos} {es : List Expr} {a p : PV} {ps : List PV} (ho : EV c ρ o a) (he : EVs c ρ es ps) (hm : MethOK c name a ps p)
    (hp : (starEach es c.env).all (fun x => !x.1) = true) (hn : es.length < 29) (hline : (apos.endLine == pos.line) = true)
    (hbase : attributeBase o name c.env (eval o c.env) = eval o c.env) : EV c ρ (.Call (.Attribute o name apos) es [] pos) p := by with_unfolding_all
  intro F s P V Q E hQ
  obtain ⟨T, id, pa, sl, ty, hm⟩ := hm
  refine wpAny_Call_method hbase ?_ hline pa sl ty ?_
  · have h1 : (backTo pos (starEach es c.env)).all (fun x => !x.1) = true := by
      unfold backTo; rw [List.all_map]; exact hp
    rw [h1]
    show (true && true && decide (es.length + 0 + 0 < 30)) = true
    simp; omega
  · refine ho F s P V _ _ fun va F₁ h₁ tk₁ u₁ ra => ?_
    obtain ⟨x1, x2, _⟩ := hm F₁ _ va (P.up (tk := tk₁) u₁) ra
    refine ⟨x1, x2, ?_⟩
    refine callWith_builtin (plain_args hp) ?_
    refine evalArgs_of he hp pos (P.up u₁) (V.up u₁) fun vs F₂ h₂ tk₂ u₂ rs => ?_
    exact (hm F₂ _ va ((P.up u₁).up u₂) (ra.mono u₂.le)).2.2 vs rs _ _ fun v F₃ h₃ tk₃ u₃ rv => hQ v F₃ h₃ tk₃ ((u₁.trans u₂).trans u₃) rv
theorem ev_item {v i : Expr} {pos : Pos} {a b p : PV} (hv : EV c ρ v a) (hi : EV c ρ i b) (hit : ItemOK c a b p)
    (ht : ∀ F va r, RV F va a → letTemporaryGo v va r = pure ()) : EV c ρ (.Subscript v i pos) p := by with_unfolding_all
  intro F s P V Q E hQ
  rw [eval_Subscript]
  refine wpAny_bind (hv F s P V _ _ fun va F₁ h₁ tk₁ u₁ ra => wpAny_bind (wpAny_holding ?_))
  refine hi F₁ _ (P.up u₁) (V.up u₁) _ _ fun vi F₂ h₂ tk₂ u₂ ri => wpAny_bind (wpAny_standAt ?_)
  have hQ' : Post F₂ { s with heap := h₂, toks := tk₂ } p fun r s₃ => wpAny (model c.prog c.w) c.A (letTemporaryGo v va r >>= fun _ => pure r) Q E s₃ := fun r F₃ h₃ tk₃ u₃ rv =>
    wpAny_bind (wpAny_of_eq (ht F₁ va r ra) (wpAny_pure (hQ r F₃ h₃ tk₃ ((u₁.trans u₂).trans u₃) rv)))
  obtain ⟨⟨T, id, hl, hT⟩, hg⟩ := hit F₂ _ va vi ((P.up u₁).up (tk := tk₂) u₂) (ra.mono u₂.le) ri _ E hQ'
  refine wpAny_bind ?_
  rw [getitemInPython_of_ne hT.not_modules]
  refine wpAny_bind (wpAny_specialOf hT hl ?_)
  have sub : subscripted i false va vi = operate [va, vi] (getItem va vi) ∨ subscripted i false va vi = operate [vi, va] (getItem va vi) := by
    unfold subscripted; split <;> simp_all
  have fin : wpAny (model c.prog c.w) c.A (subscripted i false va vi) (fun r s₃ => wpAny (model c.prog c.w) c.A (letTemporaryGo v va r >>= fun _ => pure r) Q E s₃) E { s with heap := h₂, toks := tk₂ } := by
    rcases sub with e | e <;> rw [e] <;> exact wpAny_operating hg
  first
    | exact wpAny_pure (wpAny_bind fin)
    | exact wpAny_bind (wpAny_pure (wpAny_bind fin))
    | exact wpAny_bind fin
end
end Mine
end
section
open PySem PySem.W PySem.Calls PyProof.Rows
namespace Mine
structure Act where
  g : Heap
  h0 : Addr → Option Obj
  F0 : PM
inductive Own where
  | none
  | one (x : Str) (l : List IV)
  | nest (x : Str) (ls : List (List IV))
noncomputable def Own.name : Own → Option Str
  | .none => Option.none
  | .one x _ => some x
  | .nest x _ => some x
noncomputable def OwnAt (a : Act) (F : PM) (h : Heap) (b : Addr) (l : List IV) : Prop := ∃ vs n, h.get? b = some (listObj vs n) ∧ Paired (IR F.hi) vs l ∧ F.f b = none ∧ a.h0 b = none
noncomputable def OwnIs (env : Env) (a : Act) (F : PM) (m : Str → Option Value) (h : Heap) : Own → Prop
  | .none => True
  | .one x l => ∃ b, VarIs env m h x (.ref b) ∧ OwnAt a F h b l
  | .nest x ls => ∃ b bs n, VarIs env m h x (.ref b) ∧ h.get? b = some (listObj (bs.map Value.ref) n) ∧ F.f b = none ∧ a.h0 b = none ∧ b ∉ bs ∧ bs.Nodup ∧ Paired (OwnAt a F h) bs ls
noncomputable def Store (env : Env) (a : Act) (F : PM) (ρ : Rho) (ow : Own) (h : Heap) : Prop :=
  ∃ m, h.Ns env.locals m ∧ (∀ x p, ρ.lookup x = some p → ∃ v, VarIs env m h x v ∧ RV F v p) ∧ OwnIs env a F m h ow
structure Priv (env : Env) (a : Act) (F : PM) (h : Heap) : Prop where
  l0 : a.h0 env.locals = none
  lF : F.f env.locals = none
  c0 : ∀ n cc, env.cells.lookup n = some cc → a.h0 cc = none ∧ F.f cc = none ∧ ∃ v, h.IsCell cc v
  inj : ∀ n n' cc, env.cells.lookup n = some cc → env.cells.lookup n' = some cc → n = n'
structure Inv (c : Cx) (a : Act) (F : PM) (ρ : Rho) (ow : Own) (s : Shared) : Prop where
  room : Room c.k c.A
  gb : GB c.I a.g
  g0 : ∀ b o, a.g.get? b = some o → a.h0 b = some o
  keep : ∀ b o, a.h0 b = some o → s.heap.get? b = some o
  sub : SubF F s.heap
  le : LeF a.F0 F
  new : ∀ x o, F.f x = some o → a.F0.f x = some o ∨ a.h0 x = none
  hi : F.hi ≤ s.toks
  lo : c.lo ≤ s.toks
  lo0 : 0 < c.lo
  priv : Priv c.env a F s.heap
  store : Store c.env a F ρ ow s.heap
section
variable {c : Cx} {a : Act} {F F' : PM} {ρ ρ' : Rho} {ow ow' : Own} {s : Shared} {h' : Heap} {tk : Nat}
theorem Inv.pre (I : Inv c a F ρ ow s) : Pre c F s := ⟨I.room, I.gb.keeps fun b o e => I.keep b o (I.g0 b o e), I.sub, I.hi, I.lo, I.lo0⟩
theorem Inv.vars (I : Inv c a F ρ ow s) : Vars c.env F ρ s.heap := let ⟨m, x, y, _⟩ := I.store; ⟨m, x, y⟩
theorem OwnAt.up {b : Addr} {l : List IV} (x : OwnAt a F s.heap b l) (u : Up F s F' h' tk) : OwnAt a F' h' b l := by
  obtain ⟨vs, n, e, p, q, r⟩ := x
  refine ⟨vs, n, u.keep _ _ e, Paired.imp (fun _ _ r => r.mono u.le.hi) p, ?_, r⟩
  cases e' : F'.f b with
  | none => rfl
  | some o =>
    rcases u.new _ _ e' with z | z
    · rw [q] at z; cases z
    · rw [e] at z; cases z
theorem noneUp {b : Addr} {o : Obj} (u : Up F s F' h' tk) (e : s.heap.get? b = some o) (q : F.f b = none) : F'.f b = none := by
  cases e' : F'.f b with
  | none => rfl
  | some o =>
    rcases u.new _ _ e' with z | z
    · rw [q] at z; cases z
    · rw [e] at z; cases z
theorem OwnIs.up {env : Env} {m : Str → Option Value} (x : OwnIs env a F m s.heap ow) (u : Up F s F' h' tk) : OwnIs env a F' m h' ow := by
  cases ow with
  | none => trivial
  | one x l => obtain ⟨b, p, q⟩ := x; exact ⟨b, p.keeps u.keep, q.up u⟩
  | nest x ls =>
    obtain ⟨b, bs, n, p, q, r, t, y, z, w⟩ := x
    exact ⟨b, bs, n, p.keeps u.keep, u.keep _ _ q, noneUp u q r, t, y, z, Paired.imp (fun _ _ k => k.up u) w⟩
theorem Inv.up (I : Inv c a F ρ ow s) (u : Up F s F' h' tk) : Inv c a F' ρ ow { s with heap := h', toks := tk } where
  room := I.room
  gb := I.gb
  g0 := I.g0
  keep := fun b o e => u.keep _ _ (I.keep b o e)
  sub := u.sub
  le := I.le.trans u.le
  new := fun x o e => by
    rcases u.new x o e with q | q
    · exact I.new x o q
    · refine .inr ?_
      cases e' : a.h0 x with
      | none => rfl
      | some o' => rw [I.keep _ _ e'] at q; cases q
  hi := u.hi
  lo := Nat.le_trans I.lo u.mono
  lo0 := I.lo0
  priv := by
    obtain ⟨m, ⟨oL, _, _, hL, _⟩, _⟩ := I.store
    exact ⟨I.priv.l0, noneUp u hL I.priv.lF, fun n cc e => let ⟨x, y, v, o, z, w⟩ := I.priv.c0 n cc e; ⟨x, noneUp u z y, v, o, u.keep _ _ z, w⟩, I.priv.inj⟩
  store := let ⟨m, x, y, z⟩ := I.store
    ⟨m, x.keeps u.keep, fun x p e => let ⟨v, k, r⟩ := y x p e; ⟨v, k.keeps u.keep, r.mono u.le⟩, z.up u⟩
noncomputable def SubR (ρ' ρ : Rho) : Prop := ∀ x p, ρ'.lookup x = some p → ρ.lookup x = some p
theorem Inv.weak (I : Inv c a F ρ ow s) (h : SubR ρ' ρ) : Inv c a F ρ' ow s :=
  { I with store := let ⟨m, x, y, z⟩ := I.store; ⟨m, x, fun x p e => y x p (h x p e), z⟩ }
theorem Inv.freeze {x : Str} {l : List IV} (I : Inv c a F ρ (.one x l) s) : ∃ F', LeF F F' ∧ Inv c a F' ((x, .list l) :: ρ) .none s := by
  obtain ⟨m, hn, hv, b, hb, vs, n, e, p, q, r⟩ := I.store
  have fe : ∀ y, (addF F b (listObj vs n)).f y = if y = b then some (listObj vs n) else F.f y := fun _ => rfl
  have le : LeF F (addF F b (listObj vs n)) := ⟨fun y o e' => by
    rw [fe]
    by_cases z : y = b
    · subst z; rw [q] at e'; cases e'
    · rw [if_neg z]; exact e', Nat.le_refl _⟩
  have ne : ∀ y o, s.heap.get? y = some o → (∀ vs n, o ≠ listObj vs n) → F.f y = none → (addF F b (listObj vs n)).f y = none := fun y o ho hne hF => by
    rw [fe]
    by_cases z : y = b
    · subst z; rw [e] at ho; cases ho; exact absurd rfl (hne vs n)
    · rw [if_neg z]; exact hF
  refine ⟨addF F b (listObj vs n), le, I.room, I.gb, I.g0, I.keep, fun y o e' => ?_, I.le.trans le, fun y o e' => ?_, I.hi, I.lo, I.lo0, ?_, m, hn, fun y p' e' => ?_, trivial⟩
  · rw [fe] at e'
    by_cases z : y = b
    · subst z; rw [if_pos rfl] at e'; cases e'; exact e
    · rw [if_neg z] at e'; exact I.sub _ _ e'
  · rw [fe] at e'
    by_cases z : y = b
    · subst z; exact .inr r
    · rw [if_neg z] at e'; exact I.new _ _ e'
  · obtain ⟨oL, es, ep, hL, hd, _⟩ := hn
    refine ⟨I.priv.l0, ne _ _ hL (fun vs n q => by rw [q] at hd; cases hd) I.priv.lF, fun nm cc e' => ?_, I.priv.inj⟩
    obtain ⟨u1, u2, v, o, u3, u4⟩ := I.priv.c0 nm cc e'
    exact ⟨u1, ne _ _ u3 (fun vs n q => by rw [q] at u4; cases u4) u2, v, o, u3, u4⟩
  · by_cases z : y = x
    · subst z
      simp only [List.lookup_cons, beq_self_eq_true] at e'
      cases e'
      exact ⟨_, hb, .list (addF_self _ _ _) p⟩
    · have z' : (y == x) = false := beq_eq_false_iff_ne.mpr z
      simp only [List.lookup_cons, z'] at e'
      obtain ⟨v, k, rv⟩ := hv y p' e'
      exact ⟨v, k, rv.mono le⟩
theorem Inv.freezeNest {x : Str} {ls : List (List IV)} (I : Inv c a F ρ (.nest x ls) s) : ∃ F', LeF F F' ∧ Inv c a F' ((x, .lists ls) :: ρ) .none s := by
  obtain ⟨m, hn, hv, b, bs, n, hb, e, q, r, hnb, hnd, hp⟩ := I.store
  let f' : Addr → Option Obj := fun y => if y = b ∨ y ∈ bs then s.heap.get? y else F.f y
  have inner : ∀ y ∈ bs, ∃ vs n, s.heap.get? y = some (listObj vs n) ∧ F.f y = none ∧ a.h0 y = none := by
    have : ∀ {bs : List Addr} {ls : List (List IV)}, Paired (OwnAt a F s.heap) bs ls → ∀ y ∈ bs, ∃ vs n, s.heap.get? y = some (listObj vs n) ∧ F.f y = none ∧ a.h0 y = none := by
      intro bs ls h
      induction h with
      | nil => intro y hy; cases hy
      | cons hd _ ih =>
        intro y hy
        rcases List.mem_cons.mp hy with z | z
        · subst z; obtain ⟨vs, n, e, _, f, g⟩ := hd; exact ⟨vs, n, e, f, g⟩
        · exact ih y z
    exact this hp
  have li : ∀ y, (y = b ∨ y ∈ bs) → ∃ vs n, s.heap.get? y = some (listObj vs n) ∧ F.f y = none ∧ a.h0 y = none := fun y hy => by
    rcases hy with z | z
    · subst z; exact ⟨_, _, e, q, r⟩
    · exact inner y z
  have fe : ∀ y o, f' y = some o → F.f y = some o ∨ (s.heap.get? y = some o ∧ a.h0 y = none) := fun y o h => by
    have h : (if y = b ∨ y ∈ bs then s.heap.get? y else F.f y) = some o := h
    by_cases z : y = b ∨ y ∈ bs
    · rw [if_pos z] at h; obtain ⟨_, _, _, _, g⟩ := li y z; exact .inr ⟨h, g⟩
    · rw [if_neg z] at h; exact .inl h
  have fin : ∀ y, (y = b ∨ y ∈ bs) → f' y = s.heap.get? y := fun y z => by show (if y = b ∨ y ∈ bs then s.heap.get? y else F.f y) = _; rw [if_pos z]
  have le : LeF F ⟨f', F.hi⟩ := ⟨fun y o e' => by
    show (if y = b ∨ y ∈ bs then s.heap.get? y else F.f y) = some o
    by_cases z : y = b ∨ y ∈ bs
    · obtain ⟨_, _, _, g, _⟩ := li y z; rw [g] at e'; cases e'
    · rw [if_neg z]; exact e', Nat.le_refl _⟩
  have ne : ∀ y o, s.heap.get? y = some o → (∀ vs n, o ≠ listObj vs n) → F.f y = none → f' y = none := fun y o ho hne hF => by
    show (if y = b ∨ y ∈ bs then s.heap.get? y else F.f y) = none
    by_cases z : y = b ∨ y ∈ bs
    · obtain ⟨vs, n, g, _⟩ := li y z; rw [ho] at g; cases g; exact absurd rfl (hne vs n)
    · rw [if_neg z]; exact hF
  refine ⟨⟨f', F.hi⟩, le, I.room, I.gb, I.g0, I.keep, fun y o e' => ?_, I.le.trans le, fun y o e' => ?_, I.hi, I.lo, I.lo0, ?_, m, hn, fun y p' e' => ?_, trivial⟩
  · rcases fe y o e' with z | z
    · exact I.sub _ _ z
    · exact z.1
  · rcases fe y o e' with z | z
    · exact I.new _ _ z
    · exact .inr z.2
  · obtain ⟨oL, es, ep, hL, hd, _⟩ := hn
    refine ⟨I.priv.l0, ne _ _ hL (fun vs n q => by rw [q] at hd; cases hd) I.priv.lF, fun nm cc e' => ?_, I.priv.inj⟩
    obtain ⟨u1, u2, v, o, u3, u4⟩ := I.priv.c0 nm cc e'
    exact ⟨u1, ne _ _ u3 (fun vs n q => by rw [q] at u4; cases u4) u2, v, o, u3, u4⟩
  · by_cases z : y = x
    · subst z
      simp only [List.lookup_cons, beq_self_eq_true] at e'
      cases e'
      refine ⟨_, hb, .lists ((fin b (.inl rfl)).trans e) ?_⟩
      have : ∀ {bs' : List Addr} {ls' : List (List IV)}, Paired (OwnAt a F s.heap) bs' ls' → (∀ y ∈ bs', y ∈ bs) → Paired (fun b l => ∃ vs n, f' b = some (listObj vs n) ∧ Paired (IR F.hi) vs l) bs' ls' := by
        intro bs' ls' h
        induction h with
        | nil => intro _; exact .nil
        | cons hd _ ih =>
          intro hs
          obtain ⟨vs, n, e, p, _, _⟩ := hd
          exact .cons ⟨vs, n, (fin _ (.inr (hs _ List.mem_cons_self))).trans e, p⟩ (ih fun y hy => hs y (List.mem_cons_of_mem _ hy))
      exact this hp fun _ h => h
    · have z' : (y == x) = false := beq_eq_false_iff_ne.mpr z
      simp only [List.lookup_cons, z'] at e'
      obtain ⟨v, k, rv⟩ := hv y p' e'
      exact ⟨v, k, rv.mono le⟩
end
inductive PF where
  | next | brk | cont
  | ret (p : PV)
inductive RFl (F : PM) : Flow → PF → Prop
  | next : RFl F .next .next
  | brk : RFl F .brk .brk
  | cont : RFl F .cont .cont
  | ret {v : Value} {p : PV} : RV F v p → RFl F (.ret v) (.ret p)
noncomputable def PostS (c : Cx) (a : Act) (F : PM) (s : Shared) (fl : PF) (ρ : Rho) (ow : Own) (Q : Flow → Shared → Prop) : Prop :=
  ∀ f F' h' tk, LeF F F' → Inv c a F' ρ ow { s with heap := h', toks := tk } → RFl F' f fl → Q f { s with heap := h', toks := tk }
@[irreducible] noncomputable def EX (c : Cx) (st : Stmt) (ρ : Rho) (ow : Own) (fl : PF) (ρ' : Rho) (ow' : Own) : Prop :=
  ∀ a F s, Inv c a F ρ ow s → ∀ Q E, PostS c a F s fl ρ' ow' Q → wpAny (model c.prog c.w) c.A (exec st c.env) Q E s
@[irreducible] noncomputable def EXs (c : Cx) (sts : List Stmt) (ρ : Rho) (ow : Own) (fl : PF) (ρ' : Rho) (ow' : Own) : Prop :=
  ∀ a F s, Inv c a F ρ ow s → ∀ Q E, PostS c a F s fl ρ' ow' Q → wpAny (model c.prog c.w) c.A (execs sts c.env) Q E s
section
variable {c : Cx} {ρ ρ' ρ'' : Rho} {ow ow' ow'' : Own} {fl : PF}
theorem exs_nil : EXs c [] ρ ow .next ρ ow := by with_unfolding_all exact (fun _ F s I _ _ hQ => wpAny_execs_nil (hQ .next F s.heap s.toks (LeF.refl _) I .next))
theorem exs_cons {st : Stmt} {rest : List Stmt} (h : EX c st ρ ow .next ρ' ow') (hr : EXs c rest ρ' ow' fl ρ'' ow'') : EXs c (st :: rest) ρ ow fl ρ'' ow'' := by with_unfolding_all
  intro a F s I Q E hQ
  refine wpAny_execs_cons (h a F s I _ _ fun f F₁ h₁ tk₁ l₁ I₁ r₁ => ?_)
  cases r₁
  exact hr a F₁ _ I₁ _ _ fun f F₂ h₂ tk₂ l₂ I₂ r₂ => hQ f F₂ h₂ tk₂ (l₁.trans l₂) I₂ r₂
theorem exs_leave {st : Stmt} {rest : List Stmt} (h : EX c st ρ ow fl ρ' ow') (hf : fl ≠ .next) : EXs c (st :: rest) ρ ow fl ρ' ow' := by with_unfolding_all
  intro a F s I Q E hQ
  refine wpAny_execs_cons (h a F s I _ _ fun f F₁ h₁ tk₁ l₁ I₁ r₁ => ?_)
  cases r₁ with
  | next => exact absurd rfl hf
  | brk => exact hQ _ F₁ h₁ tk₁ l₁ I₁ .brk
  | cont => exact hQ _ F₁ h₁ tk₁ l₁ I₁ .cont
  | ret rv => exact hQ _ F₁ h₁ tk₁ l₁ I₁ (.ret rv)
theorem exs_weak {sts : List Stmt} (hw : SubR ρ' ρ) (h : EXs c sts ρ' ow fl ρ'' ow') : EXs c sts ρ ow fl ρ'' ow' := by with_unfolding_all exact (fun a F s I Q E hQ => h a F s (I.weak hw) Q E hQ)
theorem exs_weakR {sts : List Stmt} (hw : SubR ρ'' ρ') (h : EXs c sts ρ ow fl ρ' ow') : EXs c sts ρ ow fl ρ'' ow' := by with_unfolding_all exact (fun a F s I Q E hQ =>
  h a F s I Q E fun f F' h' tk l I' r => hQ f F' h' tk l (I'.weak hw) r)
theorem ex_weak {st : Stmt} (hw : SubR ρ' ρ) (h : EX c st ρ' ow fl ρ'' ow') : EX c st ρ ow fl ρ'' ow' := by with_unfolding_all exact (fun a F s I Q E hQ => h a F s (I.weak hw) Q E hQ)
theorem ex_weakR {st : Stmt} (hw : SubR ρ'' ρ') (h : EX c st ρ ow fl ρ' ow') : EX c st ρ ow fl ρ'' ow' := by with_unfolding_all exact (fun a F s I Q E hQ =>
  h a F s I Q E fun f F' h' tk l I' r => hQ f F' h' tk l (I'.weak hw) r)
theorem exs_freeze {sts : List Stmt} {x : Str} {l : List IV} (h : EXs c sts ((x, .list l) :: ρ) .none fl ρ' ow') : EXs c sts ρ (.one x l) fl ρ' ow' := by with_unfolding_all exact (fun a F s I Q E hQ => by
  obtain ⟨F', le, I'⟩ := I.freeze
  exact h a F' s I' Q E fun f F₂ h₂ tk₂ l₂ I₂ r₂ => hQ f F₂ h₂ tk₂ (le.trans l₂) I₂ r₂)
theorem exs_freezeNest {sts : List Stmt} {x : Str} {ls : List (List IV)} (h : EXs c sts ((x, .lists ls) :: ρ) .none fl ρ' ow') : EXs c sts ρ (.nest x ls) fl ρ' ow' := by with_unfolding_all exact (fun a F s I Q E hQ => by
  obtain ⟨F', le, I'⟩ := I.freezeNest
  exact h a F' s I' Q E fun f F₂ h₂ tk₂ l₂ I₂ r₂ => hQ f F₂ h₂ tk₂ (le.trans l₂) I₂ r₂)
theorem ex_ret {e : Expr} {pos : Pos} {p : PV} (h : EV c ρ e p) : EX c (.Return (some e) pos) ρ ow (.ret p) ρ ow := by with_unfolding_all exact (fun a F s I Q E hQ =>
  wpAny_Return_some (h F s I.pre I.vars _ _ fun v F₁ h₁ tk₁ u r => hQ _ F₁ h₁ tk₁ u.le (I.up u) (.ret r)))
theorem ex_brk {pos : Pos} : EX c (.Break pos) ρ ow .brk ρ ow := by with_unfolding_all exact (fun a F s I Q E hQ => by
  show wpAny _ _ (do standAt pos; pure Flow.brk) Q E s
  exact wpAny_bind (wpAny_standAt (wpAny_pure (hQ _ F s.heap s.toks (LeF.refl _) I .brk))))
theorem ex_if {t : Expr} {b o : List Stmt} {pos : Pos} {q : Bool} (ht : EB c ρ t q) (hb : q = true → EXs c b ρ ow fl ρ' ow') (ho : q = false → EXs c o ρ ow fl ρ' ow') : EX c (.If t b o pos) ρ ow fl ρ' ow' := by with_unfolding_all
  intro a F s I Q E hQ
  refine wpAny_If (ht F s I.pre I.vars _ _ fun F₁ h₁ tk₁ u => ?_)
  cases q with
  | true => exact hb rfl a F₁ _ (I.up u) Q E fun f F₂ h₂ tk₂ l₂ I₂ r₂ => hQ f F₂ h₂ tk₂ (u.le.trans l₂) I₂ r₂
  | false => exact ho rfl a F₁ _ (I.up u) Q E fun f F₂ h₂ tk₂ l₂ I₂ r₂ => hQ f F₂ h₂ tk₂ (u.le.trans l₂) I₂ r₂
theorem ex_if_true {t : Expr} {b o : List Stmt} {pos : Pos} (ht : EB c ρ t true) (hb : EXs c b ρ ow fl ρ' ow') : EX c (.If t b o pos) ρ ow fl ρ' ow' := ex_if ht (fun _ => hb) (fun q => nomatch q)
theorem ex_if_false {t : Expr} {b o : List Stmt} {pos : Pos} (ht : EB c ρ t false) (ho : EXs c o ρ ow fl ρ' ow') : EX c (.If t b o pos) ρ ow fl ρ' ow' := ex_if ht (fun q => nomatch q) (fun _ => ho)
end
noncomputable def CanStore (env : Env) (x : Str) : Prop := env.kindOf x = some .local ∨ (env.kindOf x = some .cell ∧ (env.cells.lookup x).isSome = true)
section
variable {c : Cx} {a : Act} {F : PM} {ρ : Rho} {ow : Own} {s : Shared}
theorem ns_ne {h : Heap} {L b : Addr} {m : Str → Option Value} {o : Obj} (hn : h.Ns L m) (e : h.get? b = some o) (ho : ∀ es n, o.data ≠ .dict es n) : b ≠ L := by
  rintro rfl
  obtain ⟨o', es, ep, h1, h2, _⟩ := hn
  rw [e] at h1; cases h1
  exact ho _ _ h2
theorem OwnAt.but {h h' : Heap} {b d : Addr} {l : List IV} (x : OwnAt a F h b l) (hs : ∀ y, y ≠ d → h'.get? y = h.get? y) (hne : b ≠ d) : OwnAt a F h' b l :=
  let ⟨vs, n, e, r⟩ := x; ⟨vs, n, (hs b hne).trans e, r⟩
theorem OwnIs.but {env : Env} {m m' : Str → Option Value} {h h' : Heap} {d : Addr} (x : OwnIs env a F m h ow) (hs : ∀ y, y ≠ d → h'.get? y = h.get? y) (hd : ∀ vs n, h.get? d ≠ some (listObj vs n))
    (hv : ∀ x b, ow.name = some x → VarIs env m h x (.ref b) → VarIs env m' h' x (.ref b)) : OwnIs env a F m' h' ow := by
  have ne : ∀ b vs n, h.get? b = some (listObj vs n) → b ≠ d := fun b vs n e q => hd vs n (q ▸ e)
  have up : ∀ b l, OwnAt a F h b l → OwnAt a F h' b l := fun b l y => y.but hs (let ⟨vs, n, e, _⟩ := y; ne b vs n e)
  cases ow with
  | none => trivial
  | one x l => obtain ⟨b, p, q⟩ := x; exact ⟨b, hv _ _ rfl p, up _ _ q⟩
  | nest x ls =>
    obtain ⟨b, bs, n, p, q, r, t, y, z, w⟩ := x
    exact ⟨b, bs, n, hv _ _ rfl p, (hs b (ne _ _ _ q)).trans q, r, t, y, z, Paired.imp up w⟩
theorem VarIs.but {env : Env} {m : Str → Option Value} {h h' : Heap} {d : Addr} {x : Str} {v : Value} (y : VarIs env m h x v) (hs : ∀ y, y ≠ d → h'.get? y = h.get? y)
    (hd : ∀ cc v, env.cells.lookup x = some cc → h.IsCell cc v → cc ≠ d) : VarIs env m h' x v :=
  y.imp id fun ⟨q, cc, hc, hv⟩ => ⟨q, cc, hc, let ⟨o, e, d'⟩ := hv; ⟨o, (hs cc (hd cc _ hc hv)).trans e, d'⟩⟩
theorem store_inv {x : Str} {v : Value} {Q : Unit → Shared → Prop} {E : Value → Shared → Prop} (I : Inv c a F ρ ow s) (hk : EnvOK c.env) (hx : CanStore c.env x) (ho : ow.name ≠ some x)
    (hQ : ∀ h' tk, (∀ p, RV F v p → Inv c a F ((x, p) :: ρ) ow { s with heap := h', toks := tk }) →
      (∀ b o, s.heap.get? b = some o → (∀ es n, o.data ≠ .dict es n) → (∀ v, o.data ≠ .cell v) → h'.get? b = some o) →
      (∃ m', h'.Ns c.env.locals m' ∧ VarIs c.env m' h' x v ∧ ∀ y p, y ≠ x → ρ.lookup y = some p → ∃ v, VarIs c.env m' h' y v ∧ RV F v p) → Priv c.env a F h' → (∀ b o, a.h0 b = some o → h'.get? b = some o) → SubF F h' → s.toks ≤ tk →
      (∀ b o, b ≠ c.env.locals → (∀ n, c.env.cells.lookup n ≠ some b) → s.heap.get? b = some o → h'.get? b = some o) → Q () { s with heap := h', toks := tk }) :
    wpAny (model c.prog c.w) c.A (storeName c.env x v) Q E s := by
  obtain ⟨m, hn, hv, hw⟩ := I.store
  have hp : (c.env.scope.kind == .class || (c.env.scope.kind == .module && c.env.locals != c.env.globals)) = false := by rw [hk.kind]; rfl
  rcases hx with hx | ⟨hx, hc⟩
  · refine wpAny_storeName_local hx hn (fun h' hn' hs => ?_) hp
    have sub0 : ∀ b o, a.h0 b = some o → h'.get? b = some o := fun b o e => (hs.2 b (fun q => by rw [q, I.priv.l0] at e; cases e)).trans (I.keep b o e)
    have subF : SubF F h' := fun b o e => (hs.2 b (fun q => by rw [q, I.priv.lF] at e; cases e)).trans (I.sub b o e)
    have cellne : ∀ cc v, s.heap.IsCell cc v → cc ≠ c.env.locals := fun cc v ⟨o, e, d⟩ => ns_ne hn e fun es n q => by rw [d] at q; cases q
    have pv : Priv c.env a F h' := ⟨I.priv.l0, I.priv.lF, fun n cc e => let ⟨u1, u2, v, o, u3, u4⟩ := I.priv.c0 n cc e; ⟨u1, u2, v, o, (hs.2 cc (cellne cc v ⟨o, u3, u4⟩)).trans u3, u4⟩, I.priv.inj⟩
    have kv : ∀ y v', y ≠ x → VarIs c.env m s.heap y v' → VarIs c.env (fun y => if y = x then some v else m y) h' y v' := fun y v' hy k => by
      have k' := k.but (h' := h') (d := c.env.locals) hs.2 fun cc v _ hc => cellne cc v hc
      rcases k' with ⟨k1, k2⟩ | k2
      · exact .inl ⟨k1, by show (if y = x then some v else m y) = some v'; rw [if_neg hy]; exact k2⟩
      · exact .inr k2
    have own : OwnIs c.env a F (fun y => if y = x then some v else m y) h' ow := hw.but (d := c.env.locals) hs.2 (fun vs n e => ns_ne hn e (fun es n q => by cases q) rfl) fun y b hy k => kv y _ (fun q => ho (q ▸ hy)) k
    have kx : VarIs c.env (fun y => if y = x then some v else m y) h' x v := .inl ⟨hx, by simp⟩
    refine hQ h' _ (fun p r => ⟨I.room, I.gb, I.g0, sub0, subF, I.le, I.new, Nat.le_succ_of_le I.hi, Nat.le_succ_of_le I.lo, I.lo0, pv, _, hn', fun y p' e => ?_, own⟩)
      (fun b o e h1 _ => (hs.2 b (ns_ne hn e h1)).trans e) ⟨_, hn', kx, fun y p hy e => let ⟨v', k, r⟩ := hv y p e; ⟨v', kv y v' hy k, r⟩⟩ pv sub0 subF (Nat.le_succ _) (fun b o hb _ e => (hs.2 b hb).trans e)
    by_cases z : y = x
    · subst z
      simp only [List.lookup_cons, beq_self_eq_true] at e
      cases e
      exact ⟨v, kx, r⟩
    · have z' : (y == x) = false := beq_eq_false_iff_ne.mpr z
      simp only [List.lookup_cons, z'] at e
      obtain ⟨v', k, rv⟩ := hv y p' e
      exact ⟨v', kv y v' z k, rv⟩
  · obtain ⟨cc, hcc⟩ := Option.isSome_iff_exists.mp hc
    obtain ⟨u1, u2, v0, hcell⟩ := I.priv.c0 x cc hcc
    refine wpAny_storeName_cell hk.kind hx hcc hcell fun h' hv' hs => ?_
    have hLc : c.env.locals ≠ cc := by
      rintro q
      obtain ⟨o, e, d⟩ := hcell
      exact ns_ne hn e (fun es n q => by rw [d] at q; cases q) q.symm
    have hn' : h'.Ns c.env.locals m := hn.sameBut hs hLc
    have sub0 : ∀ b o, a.h0 b = some o → h'.get? b = some o := fun b o e => (hs.2 b (fun q => by rw [q, u1] at e; cases e)).trans (I.keep b o e)
    have subF : SubF F h' := fun b o e => (hs.2 b (fun q => by rw [q, u2] at e; cases e)).trans (I.sub b o e)
    have pv : Priv c.env a F h' := ⟨I.priv.l0, I.priv.lF, fun n c2 e => by
      obtain ⟨w1, w2, v2, o2, w3, w4⟩ := I.priv.c0 n c2 e
      by_cases q : c2 = cc
      · subst q; exact ⟨w1, w2, _, hv'⟩
      · exact ⟨w1, w2, v2, o2, (hs.2 c2 q).trans w3, w4⟩, I.priv.inj⟩
    have kv : ∀ y v', y ≠ x → VarIs c.env m s.heap y v' → VarIs c.env m h' y v' := fun y v' hy k =>
      k.but (d := cc) hs.2 fun c2 v2 h2 _ q => hy (I.priv.inj y x cc (q ▸ h2) hcc)
    have own : OwnIs c.env a F m h' ow := hw.but (d := cc) hs.2 (fun vs n e => by obtain ⟨o, e', d⟩ := hcell; rw [e'] at e; cases e; cases d) fun y b hy k => kv y _ (fun q => ho (q ▸ hy)) k
    have kx : VarIs c.env m h' x v := .inr ⟨hx, cc, hcc, hv'⟩
    refine hQ h' s.toks (fun p r => ⟨I.room, I.gb, I.g0, sub0, subF, I.le, I.new, I.hi, I.lo, I.lo0, pv, _, hn', fun y p' e => ?_, own⟩)
      (fun b o e _ h2 => (hs.2 b (fun q => by obtain ⟨o', e', d⟩ := hcell; rw [q, e'] at e; cases e; exact h2 _ d)).trans e) ⟨_, hn', kx, fun y p hy e => let ⟨v', k, r⟩ := hv y p e; ⟨v', kv y v' hy k, r⟩⟩ pv sub0 subF (Nat.le_refl _) (fun b o _ hb e => (hs.2 b (fun q => hb x (q ▸ hcc))).trans e)
    by_cases z : y = x
    · subst z
      simp only [List.lookup_cons, beq_self_eq_true] at e
      cases e
      exact ⟨v, kx, r⟩
    · have z' : (y == x) = false := beq_eq_false_iff_ne.mpr z
      simp only [List.lookup_cons, z'] at e
      obtain ⟨v', k, rv⟩ := hv y p' e
      exact ⟨v', kv y v' z k, rv⟩
theorem ex_assign {x : Str} {px pos : Pos} {e : Expr} {p : PV} (he : EV c ρ e p) (hk : EnvOK c.env) (hx : CanStore c.env x) (ho : ow.name ≠ some x) (hs : swapsWith e (some (.Name x px)) pos.line c.env = pure false) :
    EX c (.Assign [.Name x px] e pos) ρ ow .next ((x, p) :: ρ) ow := by with_unfolding_all
  intro a F s I Q E hQ
  refine wpAny_Assign_Name (he F s I.pre I.vars _ _ fun v F₁ h₁ tk₁ u r => ?_) hs
  exact store_inv (I.up u) hk hx ho fun h' tk hI _ _ _ _ _ _ _ => hQ .next F₁ h' tk u.le (hI p r) .next
theorem ex_aug {x : Str} {px pos : Pos} {op : Operator} {e : Expr} {p q r : PV} (hv : ρ.lookup x = some p) (he : EV c ρ e q) (hop : InpOK c op p q r) (hk : EnvOK c.env) (hx : CanStore c.env x) (ho : ow.name ≠ some x) :
    EX c (.AugAssign (.Name x px) op e pos) ρ ow .next ((x, r) :: ρ) ow := by with_unfolding_all
  intro a F s I Q E hQ
  refine wpAny_AugAssign_Name ?_
  obtain ⟨m, hn, hm, _⟩ := I.store
  obtain ⟨v, hv, hr⟩ := hm x p hv
  have fin : wpAny (model c.prog c.w) c.A (eval e c.env) (fun w s₂ => wpAny (model c.prog c.w) c.A (inplaceOp op v w) (fun r s₃ => wpAny (model c.prog c.w) c.A (storeName c.env x r) (fun _ => Q .next) E s₃) E s₂) E s := by
    refine he F s I.pre I.vars _ _ fun w F₁ h₁ tk₁ u₁ rw => ?_
    refine hop F₁ _ v w (I.up u₁).pre (hr.mono u₁.le) rw _ _ fun z F₂ h₂ tk₂ u₂ rz => ?_
    exact store_inv ((I.up u₁).up u₂) hk hx ho fun h' tk hI _ _ _ _ _ _ _ => hQ .next F₂ h' tk (u₁.le.trans u₂.le) (hI r rz) .next
  rcases hv with ⟨hl, he⟩ | ⟨hl, cc, hc, hv⟩
  · exact wpAny_loadName_local hk.kind hl hn he fin
  · exact wpAny_loadName_cell hk.kind hl hc hv fin
end
end Mine
end
section
open PySem PySem.W PySem.Calls PyProof.Rows
namespace Mine
noncomputable def extH (h0 : Addr → Option Obj) (fp : List Addr) (h : Heap) : Addr → Option Obj := fun b => if b ∈ fp then h.get? b else h0 b
theorem Walks.any {prog : Program} {w : World} {A : Around} {I : Addr} {fp wr : List Addr} {n : Nat} {P : Nat → Value → Prop} {St : Nat → Heap → Prop} (W : Walks prog w A I fp wr n P St) : Walks prog w A I fp wr n (fun _ _ => True) St :=
  ⟨W.sub, W.frame, fun i s Q E hi st hQ => W.item i s Q E hi st fun v h' tk _ => hQ v h' tk trivial, W.done, W.self⟩
structure WL (prog : Program) (w : World) (A : Around) (lo : Nat) (I : Addr) (fp wr : List Addr) (n : Nat) (P : Nat → Value → Prop) (St : Nat → Heap → Prop) : Prop where
  base : Walks prog w A I fp wr n (fun _ _ => True) St
  item : ∀ (i : Nat) (s : Shared), i < n → St i s.heap → lo ≤ s.toks → ∀ (Q : Option Value → Shared → Prop) (E : Value → Shared → Prop),
    (∀ v h' tk, P i v → St (i + 1) h' → (∀ b o, b ∉ wr → s.heap.get? b = some o → h'.get? b = some o) → Q (some v) ⟨h', s.gens, s.drawn, tk, s.os⟩) → wpAny (model prog w) A (pyNext (.ref I)) Q E s
theorem WL.of {prog : Program} {w : World} {A : Around} {lo : Nat} {I : Addr} {fp wr : List Addr} {n : Nat} {P : Nat → Value → Prop} {St : Nat → Heap → Prop} (W : Walks prog w A I fp wr n P St) : WL prog w A lo I fp wr n P St :=
  ⟨Walks.any W, fun i s hi st _ Q E hQ => W.item i s Q E hi st hQ⟩
inductive ForRun (c : Cx) (x : Str) (body : List Stmt) : List PV → Rho → Own → PF → Rho → Own → Prop
  | nil {ρ ow} : ForRun c x body [] ρ ow .next ρ ow
  | next {v l ρ ow ρ₁ ow₁ fl ρ' ow'} : ow.name ≠ some x → EXs c body ((x, v) :: ρ) ow .next ρ₁ ow₁ → ForRun c x body l ρ₁ ow₁ fl ρ' ow' → ForRun c x body (v :: l) ρ ow fl ρ' ow'
  | brk {v l ρ ow ρ' ow'} : ow.name ≠ some x → EXs c body ((x, v) :: ρ) ow .brk ρ' ow' → ForRun c x body (v :: l) ρ ow .brk ρ' ow'
  | ret {v l ρ ow p ρ' ow'} : ow.name ≠ some x → EXs c body ((x, v) :: ρ) ow (.ret p) ρ' ow' → ForRun c x body (v :: l) ρ ow (.ret p) ρ' ow'
  | weak {l ρ₁ ρ ow fl ρ' ow'} : SubR ρ₁ ρ → ForRun c x body l ρ₁ ow fl ρ' ow' → ForRun c x body l ρ ow fl ρ' ow'
@[irreducible] noncomputable def IterOK (c : Cx) (p : PV) (items : List PV) : Prop := ∀ F s v, Pre c F s → RV F v p → ∀ (Q : Value → Shared → Prop) (E : Value → Shared → Prop),
  (∀ I fp wr P St h' tk, Kp s.heap h' → s.toks ≤ tk → WL c.prog c.w c.A c.lo I fp wr items.length P St → St 0 h' → (∀ b ∈ wr, s.heap.get? b = none) →
    (∀ b ∈ fp, (b ∈ wr ∨ ∃ o, F.f b = some o) ∧ (h'.get? b).isSome = true) → (∀ i v, P i v → ∃ q, items[i]? = some q ∧ RV F v q) → (∀ i h, St i h → ∀ b ∈ wr, (h.get? b).isSome = true) → Q (.ref I) { s with heap := h', toks := tk }) →
  wpAny (model c.prog c.w) c.A (pyIter v) Q E s
section
variable {c : Cx} {a : Act} {F : PM} {ρ : Rho} {ow : Own} {s : Shared}
theorem Inv.grow {fp : List Addr} {h' : Heap} {tk : Nat} (I : Inv c a F ρ ow s) (k : Kp s.heap h') (ht : s.toks ≤ tk) (hfp : ∀ b ∈ fp, (s.heap.get? b = none ∨ ∃ o, F.f b = some o)) :
    Inv c ⟨a.g, extH a.h0 fp h', F⟩ F ρ ow { s with heap := h', toks := tk } := by
  have I' := I.up (tk := tk) (Up.kept I.sub k I.hi ht)
  have old : ∀ b o, a.h0 b = some o → extH a.h0 fp h' b = some o := fun b o e => by
    unfold extH; split
    · exact k _ _ (I.keep _ _ e)
    · exact e
  have off : ∀ b, a.h0 b = none → F.f b = none → (s.heap.get? b).isSome = true → extH a.h0 fp h' b = none := fun b e f g => by
    unfold extH; split
    · rename_i hb
      rcases hfp b hb with q | ⟨o, q⟩
      · rw [q] at g; cases g
      · rw [f] at q; cases q
    · exact e
  obtain ⟨m, hn, hv, ho⟩ := I'.store
  obtain ⟨m0, hn0, _, ho0⟩ := I.store
  refine ⟨I.room, I.gb, fun b o e => old b o (I.g0 b o e), fun b o e => ?_, I'.sub, LeF.refl _, fun x o e => .inl e, I'.hi, I'.lo, I.lo0, ⟨off _ I.priv.l0 I.priv.lF ?_, I.priv.lF, fun n cc e => ?_, I.priv.inj⟩, m, hn, hv, ?_⟩
  · show h'.get? b = some o
    have e' : extH a.h0 fp h' b = some o := e
    unfold extH at e'; split at e'
    · exact e'
    · exact k _ _ (I.keep _ _ e')
  · obtain ⟨oL, _, _, hL, _⟩ := hn0; rw [hL]; rfl
  · obtain ⟨x, y, v, o, z, w⟩ := I.priv.c0 n cc e
    exact ⟨off _ x y (by rw [z]; rfl), y, v, o, k _ _ z, w⟩
  · have un : m = m0 := by
      have h1 := hn0.keeps k
      obtain ⟨o1, es1, ep1, a1, a2, a3, a4⟩ := h1
      obtain ⟨o2, es2, ep2, b1, b2, b3, b4⟩ := hn
      have : o1 = o2 := Option.some.inj (a1.symm.trans b1)
      subst this
      rw [a2] at b2; cases b2
      funext z; rw [← b4 z, ← a4 z]
    subst un
    cases ow with
    | none => trivial
    | one x l =>
      obtain ⟨b, p, vs, n, e, q, f, g⟩ := ho0
      exact ⟨b, p.keeps k, vs, n, k _ _ e, q, f, off _ g f (by rw [e]; rfl)⟩
    | nest x ls =>
      obtain ⟨b, bs, n, p, e, f, g, y, z, w⟩ := ho0
      refine ⟨b, bs, n, p.keeps k, k _ _ e, f, off _ g f (by rw [e]; rfl), y, z, Paired.imp (fun d l q => ?_) w⟩
      obtain ⟨vs, n, e, q, f, g⟩ := q
      exact ⟨vs, n, k _ _ e, q, f, off _ g f (by rw [e]; rfl)⟩
theorem Inv.rebase (I : Inv c a F ρ ow s) : Inv c ⟨a.g, a.h0, F⟩ F ρ ow s := by
  refine ⟨I.room, I.gb, I.g0, I.keep, I.sub, LeF.refl _, fun x o e => .inl e, I.hi, I.lo, I.lo0, ⟨I.priv.l0, I.priv.lF, I.priv.c0, I.priv.inj⟩, ?_⟩
  obtain ⟨m, hn, hv, ho⟩ := I.store
  refine ⟨m, hn, hv, ?_⟩
  cases ow with
  | none => trivial
  | one x l => exact ho
  | nest x ls => exact ho
theorem Inv.shrink {h0' : Addr → Option Obj} {F0' : PM} (I : Inv c ⟨a.g, h0', F0'⟩ F ρ ow s) (l0 : ∀ b o, a.h0 b = some o → h0' b = some o) (lF : LeF a.F0 F0') (nw : ∀ x o, F0'.f x = some o → a.F0.f x = some o ∨ a.h0 x = none) (g0 : ∀ b o, a.g.get? b = some o → a.h0 b = some o) :
    Inv c a F ρ ow s := by
  have off : ∀ b, h0' b = none → a.h0 b = none := fun b e => by
    cases e' : a.h0 b with
    | none => rfl
    | some o => rw [l0 _ _ e'] at e; cases e
  refine ⟨I.room, I.gb, g0, fun b o e => I.keep b o (l0 _ _ e), I.sub, lF.trans I.le, fun x o e => ?_, I.hi, I.lo, I.lo0, ⟨off _ I.priv.l0, I.priv.lF, fun n cc e => let ⟨x, y, z⟩ := I.priv.c0 n cc e; ⟨off _ x, y, z⟩, I.priv.inj⟩, ?_⟩
  · rcases I.new x o e with q | q
    · exact nw x o q
    · exact .inr (off _ q)
  · obtain ⟨m, hn, hv, ho⟩ := I.store
    refine ⟨m, hn, hv, ?_⟩
    have own : ∀ b l, OwnAt ⟨a.g, h0', F0'⟩ F s.heap b l → OwnAt a F s.heap b l := fun b l ⟨vs, n, e, q, f, g⟩ => ⟨vs, n, e, q, f, off _ g⟩
    cases ow with
    | none => trivial
    | one x l => obtain ⟨b, p, q⟩ := ho; exact ⟨b, p, own _ _ q⟩
    | nest x ls => obtain ⟨b, bs, n, p, e, f, g, y, z, w⟩ := ho; exact ⟨b, bs, n, p, e, f, off _ g, y, z, Paired.imp own w⟩
theorem Inv.step {h0 : Addr → Option Obj} {fp wr : List Addr} {h' : Heap} {tk : Nat} (I : Inv c ⟨a.g, extH h0 fp s.heap, F⟩ F ρ ow s) (hk : ∀ b o, b ∉ wr → s.heap.get? b = some o → h'.get? b = some o) (hw : ∀ b ∈ wr, b ∈ fp)
    (hf : ∀ b ∈ fp, (s.heap.get? b).isSome = true) (hF : ∀ b ∈ wr, F.f b = none) (h00 : ∀ b o, h0 b = some o → s.heap.get? b = some o) (ht : s.toks ≤ tk) (hwn : ∀ b ∈ wr, h0 b = none) (hg : ∀ b o, a.g.get? b = some o → h0 b = some o) :
    Inv c ⟨a.g, extH h0 fp h', F⟩ F ρ ow { s with heap := h', toks := tk } := by
  have inw : ∀ b ∈ wr, ∃ o, extH h0 fp s.heap b = some o := fun b hb => by
    unfold extH; rw [if_pos (hw b hb)]; exact Option.isSome_iff_exists.mp (hf b (hw b hb))
  have notw : ∀ b, extH h0 fp s.heap b = none → b ∉ wr := fun b e hb => by obtain ⟨o, q⟩ := inw b hb; rw [q] at e; cases e
  have off : ∀ b, extH h0 fp s.heap b = none → extH h0 fp h' b = none := fun b e => by
    unfold extH at e ⊢
    split at e
    · rename_i hb; have := hf b hb; rw [e] at this; cases this
    · rename_i hb; rw [if_neg hb]; exact e
  obtain ⟨m, hn, hv, ho⟩ := I.store
  have Lw : c.env.locals ∉ wr := notw _ I.priv.l0
  have hn' : h'.Ns c.env.locals m := hn.at' fun o e => hk _ o Lw e
  have cellw : ∀ n cc, c.env.cells.lookup n = some cc → cc ∉ wr := fun n cc e => notw _ (I.priv.c0 n cc e).1
  have var : ∀ x v, VarIs c.env m s.heap x v → VarIs c.env m h' x v := fun x v k => k.imp id fun ⟨q, cc, hc, o, e, d⟩ => ⟨q, cc, hc, o, hk _ _ (cellw _ _ hc) e, d⟩
  refine ⟨I.room, I.gb, fun b o e => ?_, fun b o e => ?_, fun b o e => hk b o (fun hb => by rw [hF b hb] at e; cases e) (I.sub b o e), LeF.refl _, fun x o e => .inl e, Nat.le_trans I.hi ht, Nat.le_trans I.lo ht, I.lo0,
    ⟨off _ I.priv.l0, I.priv.lF, fun n cc e => ?_, I.priv.inj⟩, m, hn', fun x p e => let ⟨v, k, r⟩ := hv x p e; ⟨v, var x v k, r⟩, ?_⟩
  · have e0 : h0 b = some o := hg b o e
    have e1 := h00 b o e0
    show extH h0 fp h' b = some o
    unfold extH; split
    · exact hk b o (fun hb => by rw [hwn b hb] at e0; cases e0) e1
    · exact e0
  · have e' : extH h0 fp h' b = some o := e
    show h'.get? b = some o
    unfold extH at e'; split at e'
    · exact e'
    · exact hk b o (fun hb => by rw [hwn b hb] at e'; cases e') (h00 b o e')
  · obtain ⟨x, y, v, o, z, w⟩ := I.priv.c0 n cc e
    exact ⟨off _ x, y, v, o, hk _ _ (notw _ x) z, w⟩
  · have own : ∀ b l, OwnAt ⟨a.g, extH h0 fp s.heap, F⟩ F s.heap b l → OwnAt ⟨a.g, extH h0 fp h', F⟩ F h' b l := fun b l ⟨vs, n, e, q, f, g⟩ => ⟨vs, n, hk _ _ (notw _ g) e, q, f, off _ g⟩
    cases ow with
    | none => trivial
    | one x l => obtain ⟨b, p, q⟩ := ho; exact ⟨b, var _ _ p, own _ _ q⟩
    | nest x ls => obtain ⟨b, bs, n, p, e, f, g, y, z, w⟩ := ho; exact ⟨b, bs, n, var _ _ p, hk _ _ (notw _ g) e, f, off _ g, y, z, Paired.imp own w⟩
theorem SubR.refl (ρ : Rho) : SubR ρ ρ := fun _ _ e => e
theorem ForRun.inv_nil {x : Str} {body : List Stmt} {fl : PF} {ρ' : Rho} {ow' : Own} (r : ForRun c x body [] ρ ow fl ρ' ow') : fl = .next ∧ SubR ρ' ρ ∧ ow = ow' := by
  generalize hl : ([] : List PV) = l at r
  induction r with
  | nil => exact ⟨rfl, SubR.refl _, rfl⟩
  | weak h _ ih => obtain ⟨a, b, c⟩ := ih hl; exact ⟨a, fun x p e => h x p (b x p e), c⟩
  | _ => cases hl
theorem ForRun.inv_cons {x : Str} {body : List Stmt} {v : PV} {l : List PV} {fl : PF} {ρ' : Rho} {ow' : Own} (r : ForRun c x body (v :: l) ρ ow fl ρ' ow') :
    ∃ ρ₀, SubR ρ₀ ρ ∧ ow.name ≠ some x ∧ ((∃ ρ₁ ow₁, EXs c body ((x, v) :: ρ₀) ow .next ρ₁ ow₁ ∧ ForRun c x body l ρ₁ ow₁ fl ρ' ow') ∨ (fl = .brk ∧ EXs c body ((x, v) :: ρ₀) ow .brk ρ' ow') ∨ ∃ p, fl = .ret p ∧ EXs c body ((x, v) :: ρ₀) ow (.ret p) ρ' ow') := by
  generalize hl : v :: l = l' at r
  induction r with
  | nil => cases hl
  | next z h t _ => cases hl; exact ⟨_, SubR.refl _, z, .inl ⟨_, _, h, t⟩⟩
  | brk z h => cases hl; exact ⟨_, SubR.refl _, z, .inr (.inl ⟨rfl, h⟩)⟩
  | ret z h => cases hl; exact ⟨_, SubR.refl _, z, .inr (.inr ⟨_, rfl, h⟩)⟩
  | weak h _ ih => obtain ⟨ρ₀, s, r⟩ := ih hl; exact ⟨ρ₀, fun x p e => h x p (s x p e), r⟩
theorem ex_for {x : Str} {px pos : Pos} {iter : Expr} {body orelse : List Stmt} {p : PV} {items : List PV} {fl fl' : PF} {ρ' ρ'' : Rho} {ow' ow'' : Own}
    (hi : EV c ρ iter p) (hit : IterOK c p items) (hr : ForRun c x body items ρ ow fl ρ' ow') (hk : EnvOK c.env) (hx : CanStore c.env x)
    (hend : (fl = .next ∧ EXs c orelse ρ' ow' fl' ρ'' ow'') ∨ (fl = .brk ∧ fl' = .next ∧ ρ'' = ρ' ∧ ow'' = ow') ∨ ∃ q, fl = .ret q ∧ fl' = .ret q ∧ ρ'' = ρ' ∧ ow'' = ow')
    (hs : ∀ y, foldedSetIterable iter c.env y = pure y) :
    EX c (.For (.Name x px) iter body orelse pos) ρ ow fl' ρ'' ow'' := by with_unfolding_all
  intro a F s I Q E hQ
  refine wpAny_For ?_ hs
  refine hi F s I.pre I.vars _ _ fun v F₁ h₁ tk₁ u₁ rv => ?_
  have I₁ := I.up (tk := tk₁) u₁
  refine hit F₁ _ v I₁.pre rv _ _ fun It fp wr P St h₂ tk₂ k₂ t₂ W st0 hwr hfp hP hex => ?_
  have hwF : ∀ b ∈ wr, F₁.f b = none := fun b hb => by
    cases e : F₁.f b with
    | none => rfl
    | some o => have e' : h₁.get? b = some o := I₁.sub b o e; have := hwr b hb; rw [show ({ s with heap := h₁, toks := tk₁ } : Shared).heap.get? b = h₁.get? b from rfl, e'] at this; cases this
  have hw0 : ∀ b ∈ wr, a.h0 b = none := fun b hb => by
    cases e : a.h0 b with
    | none => rfl
    | some o => have e' : h₁.get? b = some o := I₁.keep b o e; have := hwr b hb; rw [show ({ s with heap := h₁, toks := tk₁ } : Shared).heap.get? b = h₁.get? b from rfl, e'] at this; cases this
  have I₂ : Inv c ⟨a.g, extH a.h0 fp h₂, F₁⟩ F₁ ρ ow { s with heap := h₂, toks := tk₂ } := I₁.grow k₂ t₂ fun b hb => by
    rcases (hfp b hb).1 with q | q
    · exact .inl (hwr b q)
    · exact .inr q
  refine codeAny_forLoop (fun n s' => ∃ h tk F' ρi owi i, s' = { s with heap := h, toks := tk } ∧ Inv c ⟨a.g, extH a.h0 fp h, F'⟩ F' ρi owi s' ∧ LeF F₁ F' ∧ (∀ x o, F'.f x = some o → a.F0.f x = some o ∨ a.h0 x = none) ∧ St i h ∧ (∀ b o, a.h0 b = some o → h.get? b = some o) ∧
    (∀ b ∈ fp, (h.get? b).isSome = true) ∧ (∀ b ∈ wr, F'.f b = none) ∧ ForRun c x body (items.drop i) ρi owi fl ρ' ow' ∧ i ≤ items.length ∧ n = items.length + 1 - i) ?_ (items.length + 1)
    ⟨h₂, tk₂, F₁, ρ, ow, 0, rfl, I₂, LeF.refl _, I₁.new, st0, fun b o e => k₂ _ _ (I₁.keep b o e), fun b hb => (hfp b hb).2, hwF, by simpa using hr, Nat.zero_le _, rfl⟩
  rintro n s' ⟨h, tk, F', ρi, owi, i, rfl, Ii, hle, hnew, hst, hsub0, hfs, hwF', hrun, hin, rfl⟩
  have shr : ∀ {F'' : PM} {ρx : Rho} {owx : Own} {h' : Heap} {tk' : Nat} {hh : Heap}, Inv c ⟨a.g, extH a.h0 fp hh, F'⟩ F'' ρx owx { s with heap := h', toks := tk' } → (∀ b o, a.h0 b = some o → hh.get? b = some o) → Inv c a F'' ρx owx { s with heap := h', toks := tk' } := fun J hh0 =>
    J.shrink (fun b o e => by
      unfold extH; split
      · exact hh0 b o e
      · exact e) ((I.le.trans u₁.le).trans hle) hnew I.g0
  by_cases hlt : i < items.length
  · refine wpAny_with_toks (Nat.le_refl _) (W.item i _ hlt hst Ii.lo _ _ fun v h₃ tk₃ hPv hst₃ hk₃ (ht₃ : tk ≤ tk₃) => ?_)
    obtain ⟨q, hq, hrq⟩ := hP i v hPv
    have hd : items.drop i = q :: items.drop (i + 1) := by
      rw [List.drop_eq_getElem_cons hlt]
      rw [List.getElem?_eq_getElem hlt] at hq
      rw [Option.some.inj hq]
    have I₃ : Inv c ⟨a.g, extH a.h0 fp h₃, F'⟩ F' ρi owi { s with heap := h₃, toks := tk₃ } :=
      Inv.step (a := a) (s := { s with heap := h, toks := tk }) Ii hk₃ W.base.sub hfs hwF' hsub0 ht₃ hw0 I.g0
    have hfs₃ : ∀ b ∈ fp, (h₃.get? b).isSome = true := fun b hb => by
      by_cases hbw : b ∈ wr
      · exact hex _ _ hst₃ b hbw
      · obtain ⟨o, e⟩ := Option.isSome_iff_exists.mp (hfs b hb)
        rw [hk₃ b o hbw e]; rfl
    have hsub₃ : ∀ b o, a.h0 b = some o → h₃.get? b = some o := fun b o e => hk₃ b o (fun hb => by rw [hw0 b hb] at e; cases e) (hsub0 b o e)
    rw [hd] at hrun
    obtain ⟨ρ₀, hsub, hox, hcases⟩ := hrun.inv_cons
    refine wpAny_assign_Name ?_
    refine store_inv (I₃.weak hsub) hk hx hox fun h₄ tk₄ hI keep₄ _ _ _ _ _ _ => ?_
    have I₄ := hI q (hrq.mono hle)
    have newAt : ∀ {F'' : PM} {ρx : Rho} {owx : Own} {h' : Heap} {tk' : Nat}, Inv c ⟨a.g, extH a.h0 fp h₃, F'⟩ F'' ρx owx { s with heap := h', toks := tk' } → ∀ x o, F''.f x = some o → a.F0.f x = some o ∨ a.h0 x = none :=
      fun J => (shr J hsub₃).new
    rcases hcases with ⟨ρ₁, ow₁, hb, hrest⟩ | ⟨rfl, hb⟩ | ⟨p', rfl, hb⟩
    · refine hb _ F' _ I₄ _ _ fun f F₅ h₅ tk₅ le₅ I₅ r₅ => ?_
      cases r₅
      have keep₅ : ∀ b ∈ fp, h₅.get? b = h₃.get? b := fun b hb => by
        obtain ⟨o, e⟩ := Option.isSome_iff_exists.mp (hfs₃ b hb)
        rw [e]
        exact I₅.keep b o (by show extH a.h0 fp h₃ b = some o; unfold extH; rw [if_pos hb]; exact e)
      have same : extH a.h0 fp h₅ = extH a.h0 fp h₃ := by
        funext b; unfold extH; split
        · rename_i hb; exact keep₅ b hb
        · rfl
      have nw := newAt I₅
      refine ⟨items.length + 1 - (i + 1), by omega, h₅, tk₅, F₅, ρ₁, ow₁, i + 1, rfl, ?_, hle.trans le₅, nw, W.base.frame _ _ _ hst₃ fun b hb o e => (keep₅ b hb).trans e, (shr I₅ hsub₃).keep, fun b hb => by rw [keep₅ b hb]; exact hfs₃ b hb, fun b hb => ?_, hrest, hlt, rfl⟩
      · rw [same]
        exact I₅.rebase
      · cases e : F₅.f b with
        | none => rfl
        | some o =>
          rcases I₅.new b o e with z | z
          · have z' : F'.f b = some o := z
            rw [hwF' b hb] at z'; cases z'
          · have z' : extH a.h0 fp h₃ b = none := z
            unfold extH at z'; rw [if_pos (W.base.sub b hb)] at z'
            have := hfs₃ b (W.base.sub b hb); rw [z'] at this; cases this
    · refine hb _ F' _ I₄ _ _ fun f F₅ h₅ tk₅ le₅ I₅ r₅ => ?_
      cases r₅
      rcases hend with ⟨q1, _⟩ | ⟨_, rfl, rfl, rfl⟩ | ⟨_, q1, _⟩
      · cases q1
      · exact hQ .next F₅ h₅ tk₅ ((u₁.le.trans hle).trans le₅) (shr I₅ hsub₃) .next
      · cases q1
    · refine hb _ F' _ I₄ _ _ fun f F₅ h₅ tk₅ le₅ I₅ r₅ => ?_
      cases r₅ with
      | ret rr =>
        rcases hend with ⟨q1, _⟩ | ⟨q1, _⟩ | ⟨_, q1, rfl, rfl, rfl⟩
        · cases q1
        · cases q1
        · cases q1
          exact hQ _ F₅ h₅ tk₅ ((u₁.le.trans hle).trans le₅) (shr I₅ hsub₃) (.ret rr)
  · have hii : i = items.length := by omega
    subst hii
    refine wpAny_with_toks (Nat.le_refl _) (W.base.done _ _ _ hst fun h₃ tk₃ hk₃ (ht₃ : tk ≤ tk₃) => ?_)
    have I₃ : Inv c ⟨a.g, extH a.h0 fp h, F'⟩ F' ρi owi { s with heap := h, toks := tk } := Ii
    have hsub₃ : ∀ b o, a.h0 b = some o → h₃.get? b = some o := fun b o e => hk₃ b o (fun hb => by rw [hw0 b hb] at e; cases e) (hsub0 b o e)
    have I₄ : Inv c ⟨a.g, extH a.h0 fp h₃, F'⟩ F' ρi owi { s with heap := h₃, toks := tk₃ } :=
      Inv.step (a := a) (s := { s with heap := h, toks := tk }) Ii hk₃ W.base.sub hfs hwF' hsub0 ht₃ hw0 I.g0
    rw [List.drop_length] at hrun
    obtain ⟨rfl, hsb, rfl⟩ := hrun.inv_nil
    rcases hend with ⟨_, he⟩ | ⟨q1, _⟩ | ⟨_, q1, _⟩
    · refine he a F' _ ((shr I₄ hsub₃).weak hsb) _ _ fun f F₅ h₅ tk₅ le₅ I₅ r₅ => ?_
      exact hQ f F₅ h₅ tk₅ ((u₁.le.trans hle).trans le₅) I₅ r₅
    · cases q1
    · cases q1
end
end Mine
end
section
open PySem PySem.W PySem.Calls PyProof.Rows
namespace Mine
noncomputable def bindR : List Str → List PV → Rho → Rho
  | n :: ns, p :: ps, ρ => bindR ns ps ((n, p) :: ρ)
  | _, _, ρ => ρ
noncomputable def BoundOK (kindOf : Str → Option NameKind) (F : PM) (m cm : Str → Option Value) (ρ : Rho) : Prop :=
  ∀ x p, ρ.lookup x = some p → ∃ v, RV F v p ∧ ((kindOf x = some .local ∧ m x = some v) ∨ (kindOf x = some .cell ∧ cm x = some v))
theorem bound_ok {kindOf : Str → Option NameKind} {F : PM} : ∀ (ns : List Str) (vs : List Value) (ps : List PV) (m cm : Str → Option Value) (ρ : Rho), Paired (RV F) vs ps → ns.length = vs.length →
    (∀ n ∈ ns, kindOf n = some .local ∨ kindOf n = some .cell) → BoundOK kindOf F m cm ρ → BoundOK kindOf F (bindL kindOf (ns.zip vs) m) (bindC kindOf (ns.zip vs) cm) (bindR ns ps ρ)
  | [], vs, ps, m, cm, ρ, _, _, _, h => by
    have e : bindR [] ps ρ = ρ := by unfold bindR; cases ps <;> rfl
    rw [e]; exact h
  | n :: ns, v :: vs, p :: ps, m, cm, ρ, .cons r rs, hl, hk, h => by
    show BoundOK kindOf F (bindL kindOf (ns.zip vs) _) (bindC kindOf (ns.zip vs) _) (bindR ns ps ((n, p) :: ρ))
    refine bound_ok ns vs ps _ _ _ rs (by simpa using hl) (fun x hx => hk x (List.mem_cons_of_mem _ hx)) fun x q e => ?_
    by_cases z : x = n
    · subst z
      simp only [List.lookup_cons, beq_self_eq_true] at e
      cases e
      rcases hk x List.mem_cons_self with k | k
      · exact ⟨v, r, .inl ⟨k, by rw [if_pos k]; simp⟩⟩
      · exact ⟨v, r, .inr ⟨k, by rw [if_neg (by rw [k]; decide)]; simp⟩⟩
    · have z' : (x == n) = false := beq_eq_false_iff_ne.mpr z
      simp only [List.lookup_cons, z'] at e
      obtain ⟨w, rw', hw⟩ := h x q e
      refine ⟨w, rw', hw.imp (fun k => ⟨k.1, ?_⟩) fun k => ⟨k.1, ?_⟩⟩
      · split
        · simp [z, k.2]
        · exact k.2
      · split
        · exact k.2
        · simp [z, k.2]
  | _ :: _, [], _, _, _, _, _, hl, _, _ => by simp at hl
noncomputable def envC (d : FnRec) (L : Addr) (cdv : Value) : Env := newEnv d.scope L mainGlobals (cellsFrom (L + 1) d.scope.names []) (d.name ++ ".<locals>.") (some d.addr) cdv none builtinsNs
structure FnOK (d : FnRec) (ns : List Str) : Prop where
  kind : d.scope.kind = .function
  co : d.scope.isCoroutine = false
  gen : d.scope.isGenerator = false
  names : ∀ n ∈ ns, d.scope.names.lookup n = some .local ∨ (d.scope.names.lookup n = some .cell ∧ ∀ L, ((cellsFrom L d.scope.names []).lookup n).isSome = true)
  bind : ∀ vs : List Value, vs.length = ns.length → ∀ doc pm an cdv ct, bindArgs (fnX d.name d.name d.params d.body d.scope [] .none .none doc pm an cdv ct) ⟨vs, []⟩ = pure (ns.zip vs)
@[irreducible] noncomputable def FN (prog : Program) (w : World) (I : TopInfo) (d : FnRec) (k : Nat) (ps : List PV) (p : PV) : Prop :=
  ∀ A env k' lo, k ≤ k' → CallOK ⟨prog, w, A, env, k', I, lo⟩ (.ref d.addr) ps p
theorem pairedRV_length {F : PM} {vs : List Value} {ps : List PV} (h : Paired (RV F) vs ps) : vs.length = ps.length := h.length
theorem fn_intro {prog : Program} {w : World} {I : TopInfo} {d : FnRec} {k : Nat} {ns : List Str} {ps : List PV} {p : PV} (hd : d ∈ I.fns) (ok : FnOK d ns) (hlen : ns.length = ps.length)
    (body : ∀ A L cdv lo, EnvOK (envC d L cdv) → ∃ ρ' ow', EXs ⟨prog, w, A, envC d L cdv, k, I, lo⟩ d.body (bindR ns ps []) .none (.ret p) ρ' ow') : FN prog w I d (k + 1) ps p := by with_unfolding_all
  intro A env k' lo hk F s vs P rs Q E hQ
  have hroom := P.room.le hk
  obtain ⟨fo, doc, pm, an, cdv, ct, ho, hdt, hcd⟩ := P.gb.fns d hd
  have hvl : vs.length = ns.length := by rw [hlen]; exact rs.length
  refine wpAny_call ?_
  refine codeAny_call_function (fd := fnX d.name d.name d.params d.body d.scope [] .none .none doc pm an cdv ct) (body := d.body) (by have h1 : A.depth + (k + 1) < recursionLimit := hroom.depth; show A.depth < recursionLimit; omega) ho hdt ok.co ok.gen rfl hcd ?_
  rw [ok.bind vs hvl]
  refine wpAny_pure ?_
  refine wpAny_with_toks (Nat.le_refl _) (wpAny_newFunctionEnv_cells ok.kind (fun x hx => ?_) fun env' he s' x => ?_)
  · have : x.1 ∈ ns := (List.of_mem_zip hx).1
    exact (ok.names _ this).imp id fun ⟨a, b⟩ => ⟨a, b _⟩
  · subst he
    obtain ⟨h₁, tk, rfl, keep⟩ := x.done
    intro (ht : s.toks ≤ tk)
    refine ⟨P.gb.nolim.keeps keep, codeAny_func ?_⟩
    show wpAny (model prog w) (A.deeper (envC d s.heap.objs.size cdv)) (execs d.body (envC d s.heap.objs.size cdv)) _ _ _
    have eok : EnvOK (envC d s.heap.objs.size cdv) := ⟨ok.kind, rfl, rfl⟩
    obtain ⟨ρ', ow', hb⟩ := body (A.deeper (envC d s.heap.objs.size cdv)) s.heap.objs.size cdv lo eok
    have fresh : ∀ cc, s.heap.objs.size ≤ cc → s.heap.get? cc = none := fun cc hcc => by
      cases e : s.heap.get? cc with
      | none => rfl
      | some o => exact absurd (Heap.lt_size e) (Nat.not_lt.mpr hcc)
    have freshF : ∀ cc, s.heap.objs.size ≤ cc → F.f cc = none := fun cc hcc => by
      cases e : F.f cc with
      | none => rfl
      | some o => have := P.sub _ _ e; rw [show s.heap.get? cc = none from fresh cc hcc] at this; cases this
    have I₀ : Inv ⟨prog, w, A.deeper (envC d s.heap.objs.size cdv), envC d s.heap.objs.size cdv, k, I, lo⟩ ⟨s.heap, s.heap.get?, F⟩ F (bindR ns ps []) .none { s with heap := h₁, toks := tk } := by
      refine ⟨hroom.deeper, P.gb, fun _ _ e => e, keep, fun b o e => keep _ _ (P.sub _ _ e), LeF.refl _, fun _ _ e => .inl e, Nat.le_trans P.hi ht, Nat.le_trans P.lo ht, P.lo0, ⟨fresh _ (Nat.le_refl _), freshF _ (Nat.le_refl _), fun n cc e => ?_, fun n n' cc e e' => ?_⟩, ?_⟩
      · have := x.above n cc (mem_of_lookup e)
        exact ⟨fresh _ (Nat.le_of_lt this), freshF _ (Nat.le_of_lt this), _, x.cell n cc e⟩
      · exact name_of_addr x.apart (mem_of_lookup e) (mem_of_lookup e')
      · refine ⟨_, x.toInCall.ns, fun y q e => ?_, trivial⟩
        have B := bound_ok (kindOf := (envC d s.heap.objs.size cdv).kindOf) (F := F) ns vs ps (fun _ => none) (fun _ => none) [] rs hvl.symm (fun n hn => (ok.names n hn).imp id fun k => k.1) (fun x p e => by simp at e)
        obtain ⟨v, rv, hv⟩ := B y q e
        refine ⟨v, hv.imp id fun ⟨k1, k2⟩ => ⟨k1, ?_⟩, rv⟩
        have hm : y ∈ ns := by
          have : ∀ (ns : List Str) (ps : List PV) (ρ : Rho), (bindR ns ps ρ).lookup y = some q → ρ.lookup y = some q ∨ y ∈ ns := by
            intro ns
            induction ns with
            | nil => intro ps ρ h; left; unfold bindR at h; cases ps <;> exact h
            | cons n r ih =>
              intro ps ρ h
              cases ps with
              | nil => left; exact h
              | cons p' ps =>
                rcases ih ps _ h with z | z
                · by_cases w : y = n
                  · right; rw [w]; exact List.mem_cons_self
                  · have w' : (y == n) = false := beq_eq_false_iff_ne.mpr w
                    simp only [List.lookup_cons, w'] at z
                    exact .inl z
                · exact .inr (List.mem_cons_of_mem _ z)
          rcases this ns ps [] e with z | z
          · simp at z
          · exact z
        rcases ok.names y hm with z | ⟨_, z⟩
        · rw [show (envC d s.heap.objs.size cdv).kindOf y = d.scope.names.lookup y from rfl, z] at k1; cases k1
        · obtain ⟨cc, hcc⟩ := Option.isSome_iff_exists.mp (z (s.heap.objs.size + 1))
          exact ⟨cc, hcc, k2 ▸ x.cell y cc hcc⟩
    refine wpAny_with_toks (n := s.toks) ht (hb _ F _ I₀ _ _ fun f F₂ h₂ tk₂ l₂ I₂ r₂ (ht₂ : s.toks ≤ tk₂) => ?_)
    cases r₂ with
    | ret rv =>
      refine hQ _ F₂ h₂ tk₂ ⟨l₂, I₂.sub, I₂.keep, I₂.new, I₂.hi, ht₂⟩ rv
theorem FN.call {prog : Program} {w : World} {I : TopInfo} {d : FnRec} {k : Nat} {ps : List PV} {p : PV} (h : FN prog w I d k ps p) {A : Around} {env : Env} {k' lo : Nat} (hk : k ≤ k') : CallOK ⟨prog, w, A, env, k', I, lo⟩ (.ref d.addr) ps p := by with_unfolding_all exact (h A env k' lo hk)
end Mine
end
section
open PySem PySem.W PySem.Calls PyProof.Rows
namespace Mine
theorem rv_str {F : PM} {v : Value} {x : Str} (r : RV F v (.str x)) : ∃ t, v = .str x t := by
  cases r with | imm h => cases h with | str _ t => exact ⟨t, rfl⟩
theorem rv_int {F : PM} {v : Value} {x : Int} (r : RV F v (.int x)) : ∃ t, v = .int x t := by
  cases r with | imm h => cases h with | int _ t => exact ⟨t, rfl⟩
theorem rv_bool {F : PM} {v : Value} {x : Bool} (r : RV F v (.bool x)) : v = .bool x := by
  cases r with | imm h => cases h with | bool _ => rfl
theorem rv_none {F : PM} {v : Value} (r : RV F v .none) : v = .none := by
  cases r with | imm h => cases h with | none => rfl
theorem rv_val {F : PM} {v u : Value} (r : RV F v (.val u)) : v = u := by
  cases r with | val _ => rfl
theorem rv_list {F : PM} {v : Value} {l : List IV} (r : RV F v (.list l)) : ∃ a vs n, v = .ref a ∧ F.f a = some (listObj vs n) ∧ Paired (IR F.hi) vs l := by
  cases r with | list h k => exact ⟨_, _, _, rfl, h, k⟩
noncomputable def IV.plain : IV → IV
  | .strC x => .str x
  | .strB x _ => .str x
  | .strN x _ => .str x
  | i => i
theorem IR.plain {hi : Nat} {v : Value} {i : IV} (h : IR hi v i) : IR hi v i.plain := by
  cases h with
  | none => exact .none
  | bool b => exact .bool b
  | int i t => exact .int i t
  | str x t => exact .str x t
  | strC x t => exact .str x t
  | strB x t => exact .str x t
  | strN x t => exact .str x t
theorem paired_map {α β γ : Type} {R : α → β → Prop} {R' : α → γ → Prop} {f : β → γ} (h : ∀ a b, R a b → R' a (f b)) : ∀ {l : List α} {l' : List β}, Paired R l l' → Paired R' l (l'.map f)
  | _, _, .nil => .nil
  | _, _, .cons a t => .cons (h _ _ a) (paired_map h t)
noncomputable def PV.plain : PV → PV
  | .imm i => .imm i.plain
  | .list l => .list (l.map IV.plain)
  | .tup l => .tup (l.map IV.plain)
  | p => p
theorem RV.plain {F : PM} {v : Value} {p : PV} (h : RV F v p) : RV F v p.plain := by
  cases h with
  | imm h => exact .imm h.plain
  | list h k => exact .list h (paired_map (fun _ _ r => r.plain) k)
  | tup h k => exact .tup h (paired_map (fun _ _ r => r.plain) k)
  | val v => exact .val v
  | slc h a b c => exact .slc h a b c
  | rng h => exact .rng h
  | lists h k => exact .lists h k
section
variable {c : Cx} {ρ : Rho}
theorem ev_plain {e : Expr} {p : PV} (h : EV c ρ e p) : EV c ρ e p.plain := by with_unfolding_all exact (fun F s P V Q E hQ => h F s P V Q E fun v F' h' tk u r => hQ v F' h' tk u r.plain)
theorem call_plain_ {f : Value} {ps : List PV} {p : PV} (h : CallOK c f ps p) : CallOK c f ps p.plain := by with_unfolding_all exact (fun F s vs P rs Q E hQ => h F s vs P rs Q E fun v F' h' tk u r => hQ v F' h' tk u r.plain)
theorem Post.same {F : PM} {s : Shared} {p : PV} {Q : Value → Shared → Prop} (hQ : Post F s p Q) (P : Pre c F s) {v : Value} (r : RV F v p) : Q v s := hQ v F s.heap s.toks P.refl r
theorem Post.tick {F : PM} {s : Shared} {p : PV} {Q : Value → Shared → Prop} (hQ : Post F s p Q) (P : Pre c F s) {v : Value} (n : Nat) (r : RV F v p) : Q v { s with toks := s.toks + n } := hQ v F s.heap _ (P.tick n) r
theorem Post.push {F : PM} {s : Shared} {p : PV} {Q : Value → Shared → Prop} (hQ : Post F s p Q) (P : Pre c F s) {v : Value} (o : Obj) (r : RV (addF F s.heap.objs.size o) v p) (hf : o.isFreed = false := by rfl) : Q v { s with heap := s.heap.push o } :=
  hQ v _ _ s.toks (P.push o hf) r
theorem Post.newStr {F : PM} {s : Shared} {x : Str} {Q : Value → Shared → Prop} (hQ : Post F s (.imm (.strC x)) Q) (P : Pre c F s) : Q (.str x s.toks) { s with toks := s.toks + 1 } :=
  hQ _ (cntF F (s.toks + 1)) s.heap _ ((P.tick 1).count (Nat.le_refl _)) (.imm (.strC x _ (Nat.lt_of_lt_of_le P.lo0 P.lo) (Nat.lt_of_lt_of_le (Nat.lt_succ_self _) (Nat.le_max_right _ _))))
theorem Post.newStrN {F : PM} {s : Shared} {x : Str} {Q : Value → Shared → Prop} (hQ : Post F s (.imm (.strN x c.lo)) Q) (P : Pre c F s) : Q (.str x s.toks) { s with toks := s.toks + 1 } :=
  hQ _ F s.heap _ (P.tick 1) (.imm (.strN x _ _ P.lo0 P.lo))
theorem ev_strC {x : Str} {k : Nat} {pos : Pos} : EV c ρ (.Constant (.str x) k pos) (.imm (.strC x)) := by with_unfolding_all exact (fun _ _ P _ _ _ hQ =>
  Constant_str (hQ.newStr P))
noncomputable abbrev ltS (x y : Str) : Bool := decide (x.cps.toList < y.cps.toList)
noncomputable abbrev eqS (x y : Str) : Bool := x.cps.toList == y.cps.toList
theorem cmp_gt_str {x y : Str} : CmpOK c .Gt (.str x) (.str y) (.bool (ltS y x)) := by with_unfolding_all
  intro F s va vb P ra rb Q E hQ
  obtain ⟨t, rfl⟩ := rv_str ra; obtain ⟨u, rfl⟩ := rv_str rb
  exact PySem.P.gt_str (hQ.same P (.imm (.bool _)))
theorem cmp_le_str {x y : Str} : CmpOK c .LtE (.str x) (.str y) (.bool (!ltS y x)) := by with_unfolding_all
  intro F s va vb P ra rb Q E hQ
  obtain ⟨t, rfl⟩ := rv_str ra; obtain ⟨u, rfl⟩ := rv_str rb
  exact PySem.P.le_str (hQ.same P (.imm (.bool _)))
theorem cmp_eq_str {x y : Str} : CmpOK c .Eq (.str x) (.str y) (.bool (eqS x y)) := by with_unfolding_all
  intro F s va vb P ra rb Q E hQ
  obtain ⟨t, rfl⟩ := rv_str ra; obtain ⟨u, rfl⟩ := rv_str rb
  exact PySem.P.eq_str (hQ.same P (.imm (.bool _)))
theorem cmp_ne_str {x y : Str} : CmpOK c .NotEq (.str x) (.str y) (.bool (x.cps.toList != y.cps.toList)) := by with_unfolding_all
  intro F s va vb P ra rb Q E hQ
  obtain ⟨t, rfl⟩ := rv_str ra; obtain ⟨u, rfl⟩ := rv_str rb
  exact PySem.P.ne_str (hQ.same P (.imm (.bool _)))
theorem cmp_in_str {x y : Str} : CmpOK c .In (.str y) (.str x) (.bool (!(Builtin.Str.occurrences x y 0 x.length 1).isEmpty)) := by with_unfolding_all
  intro F s va vb P ra rb Q E hQ
  obtain ⟨t, rfl⟩ := rv_str ra; obtain ⟨u, rfl⟩ := rv_str rb
  exact PySem.P.in_str (hQ.same P (.imm (.bool _)))
theorem cmp_eq_bool {x y : Bool} : CmpOK c .Eq (.bool x) (.bool y) (.bool (x == y)) := by with_unfolding_all
  intro F s va vb P ra rb Q E hQ
  obtain rfl := rv_bool ra; obtain rfl := rv_bool rb
  exact eq_bool (hQ.same P (.imm (.bool _)))
theorem cmp_isNot_bool {x y : Bool} : CmpOK c .IsNot (.bool x) (.bool y) (.bool (x != y)) := by with_unfolding_all
  intro F s va vb P ra rb Q E hQ
  obtain rfl := rv_bool ra; obtain rfl := rv_bool rb
  exact isnot_bool (hQ.same P (.imm (.bool _)))
theorem cmp_isNot_none_str {x : Str} : CmpOK c .IsNot (.str x) .none (.bool true) := by with_unfolding_all
  intro F s va vb P ra rb Q E hQ
  obtain ⟨t, rfl⟩ := rv_str ra; obtain rfl := rv_none rb
  exact isnot_none_gen (hQ.same P (.imm (.bool _)))
theorem cmp_isNot_none_none : CmpOK c .IsNot .none .none (.bool false) := by with_unfolding_all
  intro F s va vb P ra rb Q E hQ
  obtain rfl := rv_none ra; obtain rfl := rv_none rb
  exact isnot_none_gen (hQ.same P (.imm (.bool _)))
theorem cmp_eq_int {x y : Int} : CmpOK c .Eq (.int x) (.int y) (.bool (x == y)) := by with_unfolding_all
  intro F s va vb P ra rb Q E hQ
  obtain ⟨t, rfl⟩ := rv_int ra; obtain ⟨u, rfl⟩ := rv_int rb
  exact PySem.P.eq_int (hQ.same P (.imm (.bool _)))
theorem cmp_ne_int {x y : Int} : CmpOK c .NotEq (.int x) (.int y) (.bool (x != y)) := by with_unfolding_all
  intro F s va vb P ra rb Q E hQ
  obtain ⟨t, rfl⟩ := rv_int ra; obtain ⟨u, rfl⟩ := rv_int rb
  exact PySem.P.ne_int (hQ.same P (.imm (.bool _)))
theorem cmp_gt_int {x y : Int} : CmpOK c .Gt (.int x) (.int y) (.bool (decide (x > y))) := by with_unfolding_all
  intro F s va vb P ra rb Q E hQ
  obtain ⟨t, rfl⟩ := rv_int ra; obtain ⟨u, rfl⟩ := rv_int rb
  exact PySem.P.gt_int (hQ.same P (.imm (.bool _)))
theorem cmp_lt_int {x y : Int} : CmpOK c .Lt (.int x) (.int y) (.bool (decide (x < y))) := by with_unfolding_all
  intro F s va vb P ra rb Q E hQ
  obtain ⟨t, rfl⟩ := rv_int ra; obtain ⟨u, rfl⟩ := rv_int rb
  exact PySem.P.lt_int (hQ.same P (.imm (.bool _)))
theorem bin_add_int {x y : Int} : BinOK c .Add (.int x) (.int y) (.int (x + y)) := by with_unfolding_all
  intro F s va vb P ra rb Q E hQ
  obtain ⟨t, rfl⟩ := rv_int ra; obtain ⟨u, rfl⟩ := rv_int rb
  exact PySem.P.add_int (hQ.tick P 1 (.imm (.int _ _)))
theorem inp_add_int {x y : Int} : InpOK c .Add (.int x) (.int y) (.int (x + y)) := by with_unfolding_all
  intro F s va vb P ra rb Q E hQ
  obtain ⟨t, rfl⟩ := rv_int ra; obtain ⟨u, rfl⟩ := rv_int rb
  exact PySem.P.iadd_int (hQ.tick P 1 (.imm (.int _ _)))
theorem bin_sub_int {x y : Int} : BinOK c .Sub (.int x) (.int y) (.int (x - y)) := by with_unfolding_all
  intro F s va vb P ra rb Q E hQ
  obtain ⟨t, rfl⟩ := rv_int ra; obtain ⟨u, rfl⟩ := rv_int rb
  exact PySem.P.sub_int (hQ.tick P 1 (.imm (.int _ _)))
theorem bin_mul_int {x y : Int} (h : IntMulOk x y) : BinOK c .Mult (.int x) (.int y) (.int (x * y)) := by with_unfolding_all
  intro F s va vb P ra rb Q E hQ
  obtain ⟨t, rfl⟩ := rv_int ra; obtain ⟨u, rfl⟩ := rv_int rb
  exact PySem.P.mul_int (hQ.tick P 1 (.imm (.int _ _))) h
theorem bin_mod_int {x y : Int} (h : y ≠ 0) : BinOK c .Mod (.int x) (.int y) (.int (x.fmod y)) := by with_unfolding_all
  intro F s va vb P ra rb Q E hQ
  obtain ⟨t, rfl⟩ := rv_int ra; obtain ⟨u, rfl⟩ := rv_int rb
  exact mod_int' h (hQ.tick P 1 (.imm (.int _ _)))
theorem bin_fdiv_int {x y : Int} (h : y ≠ 0) (hp : Builtin.divisionGoesByPylong x y = false) : BinOK c .FloorDiv (.int x) (.int y) (.int (x.fdiv y)) := by with_unfolding_all
  intro F s va vb P ra rb Q E hQ
  obtain ⟨t, rfl⟩ := rv_int ra; obtain ⟨u, rfl⟩ := rv_int rb
  exact floordiv_int h (hQ.tick P 1 (.imm (.int _ _))) (.inl hp)
theorem bin_or_int {x y : Int} : BinOK c .BitOr (.int x) (.int y) (.int (Builtin.bitOr x y)) := by with_unfolding_all
  intro F s va vb P ra rb Q E hQ
  obtain ⟨t, rfl⟩ := rv_int ra; obtain ⟨u, rfl⟩ := rv_int rb
  exact or_int (hQ.tick P 1 (.imm (.int _ _)))
theorem bin_and_int {x y : Int} : BinOK c .BitAnd (.int x) (.int y) (.int (Builtin.bitAnd x y)) := by with_unfolding_all
  intro F s va vb P ra rb Q E hQ
  obtain ⟨t, rfl⟩ := rv_int ra; obtain ⟨u, rfl⟩ := rv_int rb
  exact and_int (hQ.tick P 1 (.imm (.int _ _)))
theorem inp_xor_int {x y : Int} : InpOK c .BitXor (.int x) (.int y) (.int (Builtin.bitXor x y)) := by with_unfolding_all
  intro F s va vb P ra rb Q E hQ
  obtain ⟨t, rfl⟩ := rv_int ra; obtain ⟨u, rfl⟩ := rv_int rb
  exact ixor_int (hQ.tick P 1 (.imm (.int _ _)))
theorem bin_shl_int {x y : Int} (h : 0 ≤ y) (hs : (Builtin.Int.intBits x : Int) + y ≤ 2 ^ 27) : BinOK c .LShift (.int x) (.int y) (.int (x * 2 ^ y.toNat)) := by with_unfolding_all
  intro F s va vb P ra rb Q E hQ
  obtain ⟨t, rfl⟩ := rv_int ra; obtain ⟨u, rfl⟩ := rv_int rb
  exact lshift_int h hs (hQ.tick P 1 (.imm (.int _ _)))
theorem len_of_empty {x : Str} (h : x.length = 0) : x = ⟨#[]⟩ := by
  obtain ⟨a⟩ := x
  have : a.size = 0 := h
  rw [Array.eq_empty_of_size_eq_zero this]
theorem bin_add_str {x y : Str} (h : x.length + y.length ≤ sizeLine) : BinOK c .Add (.str x) (.str y) (.str (x ++ y)) := by with_unfolding_all
  intro F s va vb P ra rb Q E hQ
  obtain ⟨t, rfl⟩ := rv_str ra; obtain ⟨u, rfl⟩ := rv_str rb
  refine PySem.P.add_str ?_
  split
  · rename_i h0
    rw [len_of_empty (beq_iff_eq.mp h0)] at hQ
    rw [show (⟨#[]⟩ : Str) ++ y = y from Str.empty_append y] at hQ
    exact hQ.same P (.imm (.str _ _))
  · split
    · rename_i h0
      rw [len_of_empty (beq_iff_eq.mp h0)] at hQ
      rw [show x ++ (⟨#[]⟩ : Str) = x from by apply Str.ext'; simp [Str.cps_append]] at hQ
      exact hQ.same P (.imm (.str _ _))
    · refine ⟨?_, hQ.tick P 1 (.imm (.str _ _))⟩
      rw [Str.length_append]; exact h
theorem inp_add_str {x y : Str} (h : x.length + y.length ≤ sizeLine) : InpOK c .Add (.str x) (.str y) (.str (x ++ y)) := by with_unfolding_all
  intro F s va vb P ra rb Q E hQ
  obtain ⟨t, rfl⟩ := rv_str ra; obtain ⟨u, rfl⟩ := rv_str rb
  refine PySem.P.iadd_str ?_
  split
  · rename_i h0
    rw [len_of_empty (beq_iff_eq.mp h0)] at hQ
    rw [show (⟨#[]⟩ : Str) ++ y = y from Str.empty_append y] at hQ
    exact hQ.same P (.imm (.str _ _))
  · split
    · rename_i h0
      rw [len_of_empty (beq_iff_eq.mp h0)] at hQ
      rw [show x ++ (⟨#[]⟩ : Str) = x from by apply Str.ext'; simp [Str.cps_append]] at hQ
      exact hQ.same P (.imm (.str _ _))
    · refine ⟨?_, hQ.tick P 1 (.imm (.str _ _))⟩
      rw [Str.length_append]; exact h
end
end Mine
end
section
open PySem PySem.W PySem.Calls PyProof.Rows
namespace Mine
theorem paired_imm {F : PM} : ∀ {vs : List Value} {l : List IV}, Paired (RV F) vs (l.map PV.imm) → Paired (IR F.hi) vs l
  | _, [], .nil => .nil
  | _, _ :: _, .cons a t => .cons (by cases a with | imm h => exact h) (paired_imm t)
theorem paired_get {α β : Type} {R : α → β → Prop} : ∀ {l : List α} {l' : List β}, Paired R l l' → ∀ (i : Nat) (b : β), l'[i]? = some b → ∃ a, l[i]? = some a ∧ R a b
  | _, _, .nil, i, b, h => by simp at h
  | _, _, .cons h t, 0, b, e => by simp at e; subst e; exact ⟨_, rfl, h⟩
  | _, _, .cons h t, i + 1, b, e => by simpa using paired_get t i b (by simpa using e)
theorem paired_get' {α β : Type} {R : α → β → Prop} : ∀ {l : List α} {l' : List β}, Paired R l l' → ∀ (i : Nat) (a : α), l[i]? = some a → ∃ b, l'[i]? = some b ∧ R a b
  | _, _, .nil, i, b, h => by simp at h
  | _, _, .cons h t, 0, b, e => by simp at e; subst e; exact ⟨_, rfl, h⟩
  | _, _, .cons h t, i + 1, b, e => by simpa using paired_get' t i b (by simpa using e)
theorem paired_append {α β : Type} {R : α → β → Prop} : ∀ {l : List α} {l' : List β} {m : List α} {m' : List β}, Paired R l l' → Paired R m m' → Paired R (l ++ m) (l' ++ m')
  | _, _, _, _, .nil, h => h
  | _, _, _, _, .cons a t, h => .cons a (paired_append t h)
noncomputable def pickL {α : Type} (l : List α) (lo hi st : Option Int) : List α := (sliceRange (sliceBounds lo hi st l.length).1 (sliceBounds lo hi st l.length).2.1 (sliceBounds lo hi st l.length).2.2).filterMap (l[·]?)
theorem slicePick_toList (vs : List Value) (lo hi st : Option Int) : slicePick vs.toArray lo hi st = (pickL vs lo hi st).toArray := by
  unfold slicePick pickL
  simp
theorem paired_pick {α β : Type} {R : α → β → Prop} {l : List α} {l' : List β} (h : Paired R l l') (lo hi st : Option Int) : Paired R (pickL l lo hi st) (pickL l' lo hi st) := by
  unfold pickL
  rw [h.length]
  generalize sliceRange _ _ _ = is
  induction is with
  | nil => exact .nil
  | cons i r ih =>
    simp only [List.filterMap_cons]
    cases e : l[i]? with
    | none =>
      cases e' : l'[i]? with
      | none => exact ih
      | some b => obtain ⟨a, q, _⟩ := paired_get h i b e'; rw [e] at q; cases q
    | some a =>
      obtain ⟨b, q, r⟩ := paired_get' h i a e
      rw [q]
      exact .cons r ih
section
variable {c : Cx} {ρ : Rho}
theorem ev_list {es : List Expr} {pos : Pos} {l : List IV} (h : EVs c ρ es (l.map PV.imm)) (hl : l.length ≤ 1000) : EV c ρ (.List es pos) (.list l) := by with_unfolding_all
  intro F s P V Q E hQ
  refine List_ (h F s pos P V _ _ fun vs F₁ h₁ tk₁ u₁ rs => ?_)
  have hp := paired_imm rs
  have hsz : vs.toArray.size ≤ sizeLine := by rw [List.size_toArray, hp.length]; exact Nat.le_trans hl (by decide)
  refine wpAny_newObj_type ?_ hsz
  have P₁ := P.up (tk := tk₁) u₁
  exact hQ _ _ _ tk₁ (u₁.trans (P₁.push (listObj vs 0))) (.list (addF_self _ _ _) hp)
theorem ev_tup {es : List Expr} {k : Nat} {pos : Pos} {l : List IV} (h : EVs c ρ es (l.map PV.imm)) (hl : l.length ≤ 1000) : EV c ρ (.Tuple es k pos) (.tup l) := by with_unfolding_all
  intro F s P V Q E hQ
  refine Tuple_ (h F s pos P V _ _ fun vs F₁ h₁ tk₁ u₁ rs => ?_)
  have hp := paired_imm rs
  have hsz : vs.toArray.size ≤ sizeLine := by rw [List.size_toArray, hp.length]; exact Nat.le_trans hl (by decide)
  refine wpAny_newObj_type ?_ hsz
  have P₁ := P.up (tk := tk₁) u₁
  exact hQ _ _ _ tk₁ (u₁.trans (P₁.push (tupObj vs 0))) (.tup (addF_self _ _ _) hp)
@[irreducible] noncomputable def EPart (c : Cx) (ρ : Rho) (e : Option Expr) (p : Option Int) : Prop := ∀ F s, Pre c F s → Vars c.env F ρ s.heap → ∀ Q E,
  (∀ v F' h' tk, Up F s F' h' tk → IsPart v p → Q v { s with heap := h', toks := tk }) → wpAny (model c.prog c.w) c.A (evalPart e c.env) Q E s
theorem epart_none : EPart c ρ none none := by with_unfolding_all exact (fun F s P V Q E hQ => wpAny_pure (hQ _ F s.heap s.toks P.refl .none))
theorem epart_some {e : Expr} {i : Int} (h : EV c ρ e (.int i)) : EPart c ρ (some e) (some i) := by with_unfolding_all exact (fun F s P V Q E hQ => by
  show wpAny _ _ (eval e c.env) Q E s
  refine h F s P V _ _ fun v F' h' tk u r => hQ v F' h' tk u ?_
  obtain ⟨t, rfl⟩ := rv_int r
  exact .int _ _)
theorem ev_slice {l u st : Option Expr} {pos : Pos} {a b d : Option Int} (hl : EPart c ρ l a) (hu : EPart c ρ u b) (hs : EPart c ρ st d) : EV c ρ (.Slice l u st pos) (.slc a b d) := by with_unfolding_all
  intro F s P V Q E hQ
  refine wpAny_Slice ?_
  refine hl F s P V _ _ fun v₁ F₁ h₁ tk₁ u₁ p₁ => ?_
  refine hu F₁ _ (P.up u₁) (V.up u₁) _ _ fun v₂ F₂ h₂ tk₂ u₂ p₂ => ?_
  refine hs F₂ _ ((P.up u₁).up u₂) ((V.up u₁).up u₂) _ _ fun v₃ F₃ h₃ tk₃ u₃ p₃ => ?_
  have P₃ := ((P.up u₁).up u₂).up (tk := tk₃) u₃
  exact hQ _ _ _ tk₃ (((u₁.trans u₂).trans u₃).trans (P₃.push (slcObj v₁ v₂ v₃))) (.slc (addF_self _ _ _) p₁ p₂ p₃)
theorem list_type {F : PM} {s : Shared} {a : Addr} {vs : List Value} {n : Nat} (P : Pre c F s) (h : F.f a = some (listObj vs n)) : s.TypeIs (.ref a) "list" := ⟨_, P.sub _ _ h, rfl⟩
theorem list_is {F : PM} {s : Shared} {a : Addr} {vs : List Value} {n : Nat} (P : Pre c F s) (h : F.f a = some (listObj vs n)) : s.heap.IsList a vs.toArray := ⟨_, P.sub _ _ h, rfl, n, rfl⟩
theorem item_list {l : List IV} {k : Nat} {i : IV} (hk : l[k]? = some i) (hl : l.length < 2 ^ 62) : ItemOK c (.list l) (.int k) (.imm i) := by with_unfolding_all
  intro F s va vb P ra rb Q E hQ
  obtain ⟨a, vs, n, rfl, hf, hp⟩ := rv_list ra
  obtain ⟨t, rfl⟩ := rv_int rb
  obtain ⟨v, hv, r⟩ := paired_get hp k i hk
  have hlt : k < l.length := by
    rcases Nat.lt_or_ge k l.length with h | h
    · exact h
    · rw [List.getElem?_eq_none h] at hk; cases hk
  refine ⟨⟨"list", _, slot_list_getitem.lookup, list_type P hf⟩, ?_⟩
  exact wpAny_getItem_list (list_is P hf) (by omega) (by omega) (by simpa using hv) (hQ.same P (.imm r))
theorem item_last {l : List IV} {i : IV} (hk : l.getLast? = some i) (hl : l.length < 2 ^ 62) : ItemOK c (.list l) (.int (-1)) (.imm i) := by with_unfolding_all
  intro F s va vb P ra rb Q E hQ
  obtain ⟨a, vs, n, rfl, hf, hp⟩ := rv_list ra
  obtain ⟨t, rfl⟩ := rv_int rb
  rw [List.getLast?_eq_getElem?] at hk
  obtain ⟨v, hv, r⟩ := paired_get hp _ i hk
  have hlen := hp.length
  have hpos : 0 < l.length := by
    rcases Nat.eq_zero_or_pos l.length with h | h
    · rw [List.getElem?_eq_none (by omega)] at hk; cases hk
    · exact h
  refine ⟨⟨"list", _, slot_list_getitem.lookup, list_type P hf⟩, ?_⟩
  refine wpAny_getItem_list_neg (list_is P hf) (by omega) (by rw [List.size_toArray]; omega) (by omega) (x := v) ?_ (hQ.same P (.imm r))
  rw [List.size_toArray, hlen]
  have : ((-1 : Int) + (l.length : Int)).toNat = l.length - 1 := by omega
  rw [this]; simpa using hv
theorem item_list_slc {l : List IV} {lo hi st : Option Int} (h0 : st ≠ some 0) (hl : l.length ≤ 100000) : ItemOK c (.list l) (.slc lo hi st) (.list (pickL l lo hi st)) := by with_unfolding_all
  intro F s va vb P ra rb Q E hQ
  obtain ⟨a, vs, n, rfl, hf, hp⟩ := rv_list ra
  cases rb with
  | slc hsl pa pb pc =>
    refine ⟨⟨"list", _, slot_list_getitem.lookup, list_type P hf⟩, ?_⟩
    refine wpAny_getItem_list_slice (list_is P hf) ⟨_, P.sub _ _ hsl, rfl, rfl⟩ pa pb pc h0 ?_ (by rw [List.size_toArray, hp.length]; exact Nat.le_trans hl (by decide))
    rw [slicePick_toList]
    exact hQ.push P (listObj (pickL vs lo hi st) 0) (.list (addF_self _ _ _) (paired_pick hp _ _ _))
theorem item_str {x : Str} {k : Nat} {cp : Nat} (hk : x.cps[k]? = some cp) (hl : x.length < 2 ^ 62) : ItemOK c (.str x) (.int k) (.imm (.strC ⟨#[cp]⟩)) := by with_unfolding_all
  intro F s va vb P ra rb Q E hQ
  obtain ⟨t, rfl⟩ := rv_str ra
  obtain ⟨u, rfl⟩ := rv_int rb
  have hlt : k < x.cps.size := by
    rcases Nat.lt_or_ge k x.cps.size with h | h
    · exact h
    · rw [Array.getElem?_eq_none h] at hk; cases hk
  have hl' : x.cps.size < 2 ^ 62 := hl
  refine ⟨⟨"str", _, PySem.F.slot_str_getitem.lookup, typeIs_str s x t⟩, ?_⟩
  refine PySem.P.getItem_str (c := cp) (by simp; omega) ?_ (hQ.newStr P)
  have : seqIndex? (k : Int) x.length = some k := by
    unfold seqIndex?
    have e : x.length = x.cps.size := rfl
    have h1 : ¬ ((k : Int) < 0) := by omega
    rw [e, if_neg h1, if_pos (by simp only [Bool.and_eq_true, decide_eq_true_eq]; omega)]
    simp
  rw [this]; exact hk
noncomputable def sliceOf (x : Str) (lo hi : Option Int) : Str := Txt.slice x lo hi
theorem part_made {v : Value} {p : Option Int} (h : IsPart v p) : ∃ q : Option (Int × Tok), v = partValue q ∧ q.map (·.1) = p := by
  cases h with
  | none => exact ⟨none, rfl, rfl⟩
  | int i t => exact ⟨some (i, t), rfl, rfl⟩
theorem item_str_slc {x : Str} {lo hi : Option Int} (hl : x.length ≤ 100000) : ItemOK c (.str x) (.slc lo hi none) (.str (Txt.slice x lo hi)) := by with_unfolding_all
  intro F s va vb P ra rb Q E hQ
  obtain ⟨t, rfl⟩ := rv_str ra
  cases rb with
  | slc hsl pa pb pc =>
    obtain ⟨q1, rfl, rfl⟩ := part_made pa
    obtain ⟨q2, rfl, rfl⟩ := part_made pb
    obtain ⟨q3, rfl, e3⟩ := part_made pc
    have e3' : q3 = none := by cases q3 <;> simp_all
    subst e3'
    refine ⟨⟨"str", _, PySem.F.slot_str_getitem.lookup, typeIs_str s x t⟩, ?_⟩
    refine wpAny_getItem_str_slice ⟨_, P.sub _ _ hsl, rfl, rfl⟩ rfl ?_
    unfold sliceMade
    have hsp : slicePicked x q1 q2 none = Builtin.Str.strSliceIndices (q1.map (·.1)) (q2.map (·.1)) 1 x.length := rfl
    unfold Txt.slice at hQ
    rw [hsp]
    split
    · rename_i h
      have h' : ((1 : Int) == 1 && (Builtin.Str.strSliceIndices (q1.map (·.1)) (q2.map (·.1)) 1 x.length).length == x.length) = true := h
      rw [if_pos h'] at hQ
      exact hQ.same P (.imm (.str _ _))
    · rename_i h
      have h' : ¬ ((1 : Int) == 1 && (Builtin.Str.strSliceIndices (q1.map (·.1)) (q2.map (·.1)) 1 x.length).length == x.length) = true := h
      rw [if_neg h'] at hQ
      refine ⟨?_, hQ.tick P 1 (.imm (.str _ _))⟩
      show (List.filterMap _ _).toArray.size ≤ sizeLine
      rw [List.size_toArray]
      exact Nat.le_trans (List.length_filterMap_le _ _) (Nat.le_trans (sliceIndices_le _ _ _) (Nat.le_trans hl (by decide)))
theorem bin_add_list {l m : List IV} (h : l.length + m.length ≤ 100000) : BinOK c .Add (.list l) (.list m) (.list (l ++ m)) := by with_unfolding_all
  intro F s va vb P ra rb Q E hQ
  obtain ⟨a, vs, n, rfl, hf, hp⟩ := rv_list ra
  obtain ⟨b, us, k, rfl, hg, hq⟩ := rv_list rb
  refine PySem.P.add_list (P.sub _ _ hf) (P.sub _ _ hg) ?_ (by rw [List.size_toArray, List.size_toArray, hp.length, hq.length]; exact Nat.le_trans h (by decide))
  have e : vs.toArray ++ us.toArray = (vs ++ us).toArray := by simp
  rw [e]
  exact hQ.push P (listObj (vs ++ us) 0) (.list (addF_self _ _ _) (paired_append hp hq))
theorem one_arg {F : PM} {vs : List Value} {p : PV} (h : Paired (RV F) vs [p]) : ∃ v, vs = [v] ∧ RV F v p := by
  cases h with | cons a t => cases t; exact ⟨_, rfl, a⟩
theorem two_args {F : PM} {vs : List Value} {p q : PV} (h : Paired (RV F) vs [p, q]) : ∃ v u, vs = [v, u] ∧ RV F v p ∧ RV F u q := by
  cases h with | cons a t => cases t with | cons b t => cases t; exact ⟨_, _, rfl, a, b⟩
theorem call_len_list {l : List IV} (hl : l.length < 2 ^ 62) : CallOK c (.builtin "len") [.list l] (.int l.length) := by with_unfolding_all
  intro F s vs P rs Q E hQ
  obtain ⟨v, rfl, r⟩ := one_arg rs
  obtain ⟨a, vs, n, rfl, hf, hp⟩ := rv_list r
  have hs : vs.toArray.size = l.length := by rw [List.size_toArray, hp.length]
  refine len_list (list_is P hf) (by rw [hs]; omega) ?_
  rw [hs]
  exact hQ.tick P 2 (.imm (.int _ _))
theorem call_len_str {x : Str} (hl : x.length < 2 ^ 62) : CallOK c (.builtin "len") [.str x] (.int x.length) := by with_unfolding_all
  intro F s vs P rs Q E hQ
  obtain ⟨v, rfl, r⟩ := one_arg rs
  obtain ⟨t, rfl⟩ := rv_str r
  exact PySem.P.len_str (by omega) (hQ.tick P 2 (.imm (.int _ _)))
theorem call_range1 {n : Int} : CallOK c (.type "range") [.int n] (.rng 0 n) := by with_unfolding_all
  intro F s vs P rs Q E hQ
  obtain ⟨v, rfl, r⟩ := one_arg rs
  obtain ⟨t, rfl⟩ := rv_int r
  refine call_range_1 ?_
  exact hQ _ _ _ _ (Up.push P.sub (rngObj 0 n _ _ _) P.hi (by omega)) (.rng (addF_self _ _ _))
theorem call_range2 {a b : Int} : CallOK c (.type "range") [.int a, .int b] (.rng a b) := by with_unfolding_all
  intro F s vs P rs Q E hQ
  obtain ⟨v, v', rfl, r, r'⟩ := two_args rs
  obtain ⟨t, rfl⟩ := rv_int r; obtain ⟨u, rfl⟩ := rv_int r'
  refine call_range_2 ?_
  exact hQ _ _ _ _ (Up.push P.sub (rngObj a b _ _ _) P.hi (by omega)) (.rng (addF_self _ _ _))
theorem call_chr {n : Nat} (h : n ≤ 1114111) : CallOK c (.builtin "chr") [.int n] (.str ⟨#[n]⟩) := by with_unfolding_all
  intro F s vs P rs Q E hQ
  obtain ⟨v, rfl, r⟩ := one_arg rs
  obtain ⟨t, rfl⟩ := rv_int r
  exact PySem.P.chr_of_int (by simp; omega) (by rw [Int.toNat_natCast]; exact hQ.tick P 1 (.imm (.str _ _)))
theorem call_ord {n : Nat} : CallOK c (.builtin "ord") [.str ⟨#[n]⟩] (.int n) := by with_unfolding_all
  intro F s vs P rs Q E hQ
  obtain ⟨v, rfl, r⟩ := one_arg rs
  obtain ⟨t, rfl⟩ := rv_str r
  exact PySem.P.ord_of_char (hQ.tick P 1 (.imm (.int _ _)))
theorem call_hex {n : Int} (h : (baseText "0x" 16 n).length ≤ sizeLine) : CallOK c (.builtin "hex") [.int n] (.str (baseText "0x" 16 n)) := by with_unfolding_all
  intro F s vs P rs Q E hQ
  obtain ⟨v, rfl, r⟩ := one_arg rs
  obtain ⟨t, rfl⟩ := rv_int r
  exact PySem.P.hex_of_int (hQ.tick P 1 (.imm (.str _ _))) h
theorem iter_list {l : List IV} : IterOK c (.list l) (l.map PV.imm) := by with_unfolding_all
  intro F s v P r Q E hQ
  obtain ⟨a, vs, n, rfl, hf, hp⟩ := rv_list r
  refine wpAny_pyIter_list (list_is P hf) ?_
  have ha := P.sub _ _ hf
  have hne : a ≠ s.heap.objs.size := Nat.ne_of_lt (Heap.lt_size ha)
  have hlen : (l.map PV.imm).length = vs.toArray.size := by rw [List.length_map, List.size_toArray, hp.length]
  have W := Walks.list (prog := c.prog) (w := c.w) (A := c.A) P.room.handled s.heap.objs.size a hne vs.toArray
  rw [← hlen] at W
  refine hQ _ _ _ _ _ _ _ (Kp.push _ _) (Nat.le_refl _) (WL.of W) ⟨⟨_, Heap.get?_push_size _ rfl, rfl, rfl⟩, _, Heap.get?_push_of_some _ ha, rfl, n, rfl⟩ (fun b hb => ?_) (fun b hb => ?_) (fun i v hv => ?_) (fun i h hst b hb => ?_)
  · rw [List.mem_singleton.mp hb]; exact get_size _
  · rcases List.mem_cons.mp hb with e | hb
    · subst e; exact ⟨.inl (List.mem_singleton.mpr rfl), by rw [Heap.get?_push_size _ rfl]; rfl⟩
    · rw [List.mem_singleton.mp hb]; exact ⟨.inr ⟨_, hf⟩, by rw [Heap.get?_push_of_some _ ha]; rfl⟩
  · have hv' : vs[i]? = some v := by simpa using hv
    obtain ⟨q, hq, r⟩ := paired_get' hp i v hv'
    exact ⟨.imm q, by rw [List.getElem?_map, hq]; rfl, .imm r⟩
  · rw [List.mem_singleton.mp hb]
    obtain ⟨⟨o, e, _⟩, _⟩ := hst
    rw [e]; rfl
noncomputable def chars (x : Str) : List Str := x.cps.toList.map fun n => ⟨#[n]⟩
theorem iter_str {x : Str} : IterOK c (.str x) ((chars x).map PV.str) := by with_unfolding_all
  intro F s v P r Q E hQ
  obtain ⟨t, rfl⟩ := rv_str r
  have hlen : ((chars x).map PV.str).length = x.cps.size := by simp [chars]
  have items : ∀ i v, SignAt x i v → ∃ q, ((chars x).map PV.str)[i]? = some q ∧ RV F v q := fun i v ⟨n, u, hn, e⟩ => by
    subst e
    refine ⟨.str ⟨#[n]⟩, ?_, .imm (.str _ _)⟩
    have : x.cps.toList[i]? = some n := by simpa using hn
    simp [chars, this]
  cases ha : x.cps.all (· < 128)
  · refine wpAny_pyIter_wide ha ?_
    have W := Walks.strWide (prog := c.prog) (w := c.w) (A := c.A) P.room.handled s.heap.objs.size x t
    rw [← hlen] at W
    refine hQ _ _ _ _ _ _ _ (Kp.push _ _) (Nat.le_refl _) (WL.of W) ⟨_, Heap.get?_push_size _ rfl, rfl, rfl⟩ (fun b hb => ?_) (fun b hb => ?_) items (fun i h hst b hb => ?_)
    · rw [List.mem_singleton.mp hb]; exact get_size _
    · rw [List.mem_singleton.mp hb]; exact ⟨.inl (List.mem_singleton.mpr rfl), by rw [Heap.get?_push_size _ rfl]; rfl⟩
    · rw [List.mem_singleton.mp hb]
      obtain ⟨o, e, _⟩ := hst
      rw [e]; rfl
  · refine wpAny_pyIter_ascii ha ?_
    have W := Walks.strAscii (prog := c.prog) (w := c.w) (A := c.A) P.room.handled s.heap.objs.size x t
    rw [← hlen] at W
    refine hQ _ _ _ _ _ _ _ (Kp.push _ _) (Nat.le_refl _) (WL.of W) ⟨_, Heap.get?_push_size _ rfl, rfl, rfl⟩ (fun b hb => ?_) (fun b hb => ?_) items (fun i h hst b hb => ?_)
    · rw [List.mem_singleton.mp hb]; exact get_size _
    · rw [List.mem_singleton.mp hb]; exact ⟨.inl (List.mem_singleton.mpr rfl), by rw [Heap.get?_push_size _ rfl]; rfl⟩
    · rw [List.mem_singleton.mp hb]
      obtain ⟨o, e, _⟩ := hst
      rw [e]; rfl
theorem iter_rng {a b : Int} {n : Nat} (hn : b = a + n) (h1 : -(2 ^ 60) ≤ a) (h2 : a + n < 2 ^ 60) : IterOK c (.rng a b) ((List.range n).map fun i => PV.int (a + (i : Nat))) := by with_unfolding_all
  intro F s v P r Q E hQ
  cases r with
  | rng hf =>
    have hr := P.sub _ _ hf
    have hsz : Builtin.Range.rangeSize a b 1 = (n : Int) := by rw [rangeSize_one]; split <;> omega
    refine wpAny_pyIter_range hr (small_one (by omega) (by omega) (by omega) (by omega)) ?_
    rw [hsz]
    have W := LCg.range_walks (prog := c.prog) (w := c.w) (A := c.A) (I := s.heap.objs.size) P.room.handled a n
    have hlen : ((List.range n).map fun i => PV.int (a + (i : Nat))).length = n := by simp
    rw [← hlen] at W
    have W := W.bound
    refine hQ _ _ _ _ _ _ _ (Kp.push _ _) (Nat.le_refl _) (WL.of W) ?_ (fun b hb => ?_) (fun b hb => ?_) (fun i v ⟨hi, t, hv⟩ => ?_) (fun i h hst b hb => ?_)
    · show (s.heap.push _).get? s.heap.objs.size = some _
      rw [Heap.get?_push_size _ rfl]; simp
    · rw [List.mem_singleton.mp hb]; exact get_size _
    · rw [List.mem_singleton.mp hb]; exact ⟨.inl (List.mem_singleton.mpr rfl), by rw [Heap.get?_push_size _ rfl]; rfl⟩
    · subst hv
      have hi' : i < n := by rw [hlen] at hi; exact hi
      exact ⟨.int (a + i), by simp [hi'], .imm (.int _ _)⟩
    · rw [List.mem_singleton.mp hb]
      have : h.get? s.heap.objs.size = some _ := hst
      rw [this]; rfl
end
end Mine
end
section
open PySem PySem.W PySem.Calls PyProof.Rows PySem.Builtin PySem.Builtin.Re
set_option maxRecDepth 100000
namespace Mine
theorem runFor_done {m : Sre.M} (h : m.outcome.isSome = true) : ∀ n, m.runFor n = m
  | 0 => rfl
  | n + 1 => by unfold Sre.M.runFor; rw [if_pos h]
theorem runFor_add : ∀ (a b : Nat) (m : Sre.M), m.runFor (a + b) = (m.runFor a).runFor b
  | 0, b, m => by rw [Nat.zero_add]; rfl
  | a + 1, b, m => by
    have e : ∀ (n : Nat), m.runFor (n + 1) = if m.outcome.isSome = true then m else m.step.runFor n := fun n => rfl
    rw [show a + 1 + b = (a + b) + 1 by omega, e, e]
    by_cases h : m.outcome.isSome = true
    · rw [if_pos h, if_pos h, runFor_done h b]
    · rw [if_neg h, if_neg h]
      exact runFor_add a b m.step
noncomputable def Ends (m m' : Sre.M) : Prop := m'.outcome.isSome = true ∧ ∃ k, k ≤ 2 ^ 60 ∧ m.runFor k = m'
noncomputable def Goes (m m' : Sre.M) (k : Nat) : Prop := m.outcome = none ∧ m.runFor k = m'
section
variable {prog : Program} {w : World} {A : Around} {E : Value → Shared → Prop} {s : Shared}
theorem drive_any {Q : Sre.M → Shared → Prop} : ∀ (k turns : Nat) (m m' : Sre.M), m'.outcome.isSome = true → m.runFor (4 * (k + 1)) = m' → k < turns → Q m' s → wpAny (model prog w) A (reDrive turns m) Q E s := by
  intro k
  induction k with
  | zero =>
    intro turns m m' ho hr ht hQ
    obtain ⟨t, rfl⟩ : ∃ t, turns = t + 1 := ⟨turns - 1, by omega⟩
    unfold reDrive
    show wpAny _ A (if (m.runFor 4).outcome.isSome = true then pure (m.runFor 4) else _) Q E s
    have e : m.runFor 4 = m' := hr
    rw [e, if_pos ho]
    exact wpAny_pure hQ
  | succ k ih =>
    intro turns m m' ho hr ht hQ
    obtain ⟨t, rfl⟩ : ∃ t, turns = t + 1 := ⟨turns - 1, by omega⟩
    unfold reDrive
    show wpAny _ A (if (m.runFor 4).outcome.isSome = true then pure (m.runFor 4) else (do rule "sre.turn"; reDrive t (m.runFor 4))) Q E s
    have e : (m.runFor 4).runFor (4 * (k + 1)) = m' := by rw [← runFor_add, ← hr]; congr 1; omega
    split
    · rename_i h
      rw [runFor_done h] at e
      rw [e]
      exact wpAny_pure hQ
    · exact wpAny_bind (wpAny_rule (ih t _ m' ho e (by omega) hQ))
theorem drive_ends {Q : Sre.M → Shared → Prop} {m m' : Sre.M} (h : Ends m m') (hQ : Q m' s) : wpAny (model prog w) A (reDrive (2 ^ 64) m) Q E s := by
  obtain ⟨ho, k, hk, hr⟩ := h
  refine drive_any (k / 4) (2 ^ 64) m m' ho ?_ (by omega) hQ
  have e : 4 * (k / 4 + 1) = k + (4 * (k / 4 + 1) - k) := by omega
  rw [e, runFor_add, hr, runFor_done ho]
theorem rules_any {m : Sre.M} : ∀ (l : List Nat) {Q : PUnit → Shared → Prop}, Q ⟨⟩ s → wpAny (model prog w) A (forIn l PUnit.unit fun i r => do
      if m.seen.has i then rule (Sre.names.getD i "")
      pure (ForInStep.yield PUnit.unit)) Q E s
  | [], Q, h => wpAny_pure h
  | i :: l, Q, h => by
    rw [List.forIn_cons]
    refine wpAny_bind ?_
    show wpAny _ A (if m.seen.has i = true then (do let r ← rule (Sre.names.getD i ""); pure (ForInStep.yield PUnit.unit)) else pure (ForInStep.yield PUnit.unit)) _ E s
    split
    · exact wpAny_bind (wpAny_rule (wpAny_pure (rules_any l h)))
    · exact wpAny_pure (rules_any l h)
theorem runToEnd_any {Q : Option Sre.M → Shared → Prop} {m m' : Sre.M} (h : Ends m m') (hQ : (m'.outcome = some .matched → Q (some m') s) ∧ (m'.outcome = some .failed → Q none s)) (hs : m'.outcome = some .matched ∨ m'.outcome = some .failed) : wpAny (model prog w) A (reRunToEnd m) Q E s := by
  unfold reRunToEnd
  refine wpAny_bind (drive_ends h ?_)
  refine wpAny_bind (rules_any _ ?_)
  rcases hs with e | e
  · rw [e]; exact wpAny_pure (hQ.1 e)
  · rw [e]; exact wpAny_pure (hQ.2 e)
end
end Mine
end
section
open PySem PySem.W PySem.Calls PyProof.Rows PySem.Builtin PySem.Builtin.Re
set_option maxRecDepth 100000
namespace Mine
theorem go_step {m m1 m' : Sre.M} {k : Nat} (h : m.outcome = none) (hs : m.step = m1) (h1 : m1.runFor k = m') : m.runFor (k + 1) = m' := by
  show (if m.outcome.isSome = true then m else m.step.runFor k) = m'
  rw [h, hs]; exact h1
noncomputable def code1 : Array Nat := #[14, 4, 0, 1, 1, 6, 1, 16, 46, 1]
noncomputable def st1 (text : Array Nat) (lim s : Nat) (must first : Bool) (seen : Sre.Seen) : Sre.M :=
  { code := code1, text, lim, start := s, lastStart := lim, mustAdvance := must, pc := 5, pos := s, handed := s, outermost := first, marks := #[], frames := [{ wait := .nextStart, pc := 5, pos := s, outermost := first }], weight := 1, seen }
noncomputable def hit1 (text : Array Nat) (lim p : Nat) : Bool := (p == 0 || text.getD (p - 1) 0 == 10) && (decide (p < lim) && text.getD p 0 == 46)
section
variable {text : Array Nat} {lim s : Nat} {must first : Bool} {seen : Sre.Seen}
theorem st1_at : (st1 text lim s must first seen).step = if (s == 0 || text.getD (s - 1) 0 == 10) = true then { st1 text lim s must first ((seen.add 6).add 44) with pc := 7 } else (st1 text lim s must first ((seen.add 6).add 44)).say false := rfl
theorem st1_lit : ({ st1 text lim s must first seen with pc := 7 } : Sre.M).step = if s ≥ lim then ({ st1 text lim s must first (seen.add 16) with pc := 7 } : Sre.M).say false else
    if (text.getD s 0 == 46) = true then { st1 text lim s must first (seen.add 16) with pc := 9, pos := s + 1 } else ({ st1 text lim s must first (seen.add 16) with pc := 7 } : Sre.M).say false := by
  have e : ({ st1 text lim s must first seen with pc := 7 } : Sre.M).step = if s ≥ lim then ({ st1 text lim s must first (seen.add 16) with pc := 7 } : Sre.M).say false else
    match (Except.ok (text.getD s 0 == 46, seen.add 16) : Except String (Bool × Sre.Seen)) with
    | .error why => ({ st1 text lim s must first (seen.add 16) with pc := 7 } : Sre.M).stick why
    | .ok (false, seen) => ({ st1 text lim s must first seen with pc := 7 } : Sre.M).say false
    | .ok (true, seen) => { st1 text lim s must first seen with pc := 9, pos := s + 1 } := rfl
  rw [e]
  split
  · rfl
  · cases text.getD s 0 == 46 <;> rfl
theorem st1_ok : ({ st1 text lim s must first seen with pc := 9, pos := s + 1 } : Sre.M).step = ({ st1 text lim s must first (seen.add 1) with pc := 9, pos := s + 1, handed := s + 1 } : Sre.M).say true := by
  have e : ({ st1 text lim s must first seen with pc := 9, pos := s + 1 } : Sre.M).step = if (first && ((false && (s + 1 != lim)) || (must && (s + 1 == s)))) = true then ({ st1 text lim s must first (seen.add 1) with pc := 9, pos := s + 1 } : Sre.M).say false else ({ st1 text lim s must first (seen.add 1) with pc := 9, pos := s + 1, handed := s + 1 } : Sre.M).say true := rfl
  have e2 : (s + 1 == s) = false := beq_eq_false_iff_ne.mpr (by omega)
  rw [e, e2]
  simp
theorem st1_fail (pc : Nat) : (({ st1 text lim s must first seen with pc := pc } : Sre.M).say false).step = if s < lim then st1 text lim (s + 1) false false seen else ({ st1 text lim s must first seen with frames := [], weight := 0, pc := 5 } : Sre.M).say false := rfl
inductive Found (hit : Nat → Option Nat) (lim : Nat) (s : Nat) (m : Sre.M) : Prop
  | yes {p e k m'} : s ≤ p → p < lim → hit p = some e → (∀ q, s ≤ q → q < p → hit q = none) → m.runFor k = m' → m'.outcome = some .matched → m'.start = p → m'.handed = e → k ≤ 20 * (lim - s + 1) → Found hit lim s m
  | no {k m'} : (∀ q, s ≤ q → hit q = none) → m.runFor k = m' → m'.outcome = some .failed → k ≤ 20 * (lim - s + 1) → Found hit lim s m
noncomputable def hitE1 (text : Array Nat) (lim p : Nat) : Option Nat := if hit1 text lim p then some (p + 1) else none
theorem search1 : ∀ (n s : Nat) (must first : Bool) (seen : Sre.Seen), lim - s = n → s ≤ lim → Found (hitE1 text lim) lim s (st1 text lim s must first seen) := by
  intro n
  induction n with
  | zero =>
    intro s must first seen hn hs
    have hsl : s = lim := by omega
    subst hsl
    have none : ∀ q, s ≤ q → hitE1 text s q = none := fun q hq => by
      unfold hitE1 hit1
      rw [decide_eq_false (by omega)]; simp
    by_cases ha : (s == 0 || text.getD (s - 1) 0 == 10) = true
    · refine .no (k := 4) none (go_step rfl (by rw [st1_at, if_pos ha]) (go_step rfl (by rw [st1_lit, if_pos (Nat.le_refl _)]) (go_step rfl (by rw [st1_fail, if_neg (Nat.lt_irrefl _)]) (go_step rfl rfl rfl)))) rfl (by omega)
    · exact .no (k := 3) none (go_step rfl (by rw [st1_at, if_neg ha]) (go_step rfl (by rw [show (st1 text s s must first ((seen.add 6).add 44)).say false = ({ st1 text s s must first ((seen.add 6).add 44) with pc := 5 } : Sre.M).say false from rfl, st1_fail, if_neg (Nat.lt_irrefl _)]) (go_step rfl rfl rfl))) rfl (by omega)
  | succ n ih =>
    intro s must first seen hn hs
    have hlt : s < lim := by omega
    have on : ∀ {m : Sre.M} {seen' : Sre.Seen} {k : Nat}, m.runFor k = st1 text lim (s + 1) false false seen' → k ≤ 4 → hitE1 text lim s = none → Found (hitE1 text lim) lim s m := fun {m seen' k} hk hk4 hno => by
      rcases ih (s + 1) false false seen' (by omega) (by omega) with ⟨h1, h2, h3, h4, h5, h6, h7, h8, h9⟩ | ⟨h1, h2, h3, h4⟩
      · exact .yes (by omega) h2 h3 (fun q hq hq' => by
          rcases Nat.lt_or_ge s q with h | h
          · exact h4 q (by omega) hq'
          · have : q = s := by omega
            subst this; exact hno) (by rw [runFor_add k, hk]; exact h5) h6 h7 h8 (by omega)
      · exact .no (fun q hq => by
          rcases Nat.lt_or_ge s q with h | h
          · exact h1 q (by omega)
          · have : q = s := by omega
            subst this; exact hno) (by rw [runFor_add k, hk]; exact h2) h3 (by omega)
    by_cases ha : (s == 0 || text.getD (s - 1) 0 == 10) = true
    · by_cases hb : (text.getD s 0 == 46) = true
      · have hh : hitE1 text lim s = some (s + 1) := by
          unfold hitE1 hit1
          rw [ha, hb, decide_eq_true hlt]; rfl
        exact .yes (k := 5) (Nat.le_refl _) hlt hh (fun q h1 h2 => by omega) (go_step rfl (by rw [st1_at, if_pos ha]) (go_step rfl (by rw [st1_lit, if_neg (by omega), if_pos hb]) (go_step rfl st1_ok (go_step rfl rfl (go_step rfl rfl rfl))))) rfl rfl rfl (by omega)
      · have hh : hitE1 text lim s = none := by
          unfold hitE1 hit1
          rw [Bool.eq_false_iff.mpr hb]; simp
        exact on (seen' := ((seen.add 6).add 44).add 16) (k := 3) (go_step rfl (by rw [st1_at, if_pos ha]) (go_step rfl (by rw [st1_lit, if_neg (by omega), if_neg hb]) (go_step rfl (by rw [st1_fail, if_pos hlt]; rfl) rfl))) (by decide) hh
    · have hh : hitE1 text lim s = none := by
        unfold hitE1 hit1
        rw [Bool.eq_false_iff.mpr ha]; simp
      exact on (seen' := (seen.add 6).add 44) (k := 2) (go_step rfl (by rw [st1_at, if_neg ha]) (go_step rfl (by rw [show (st1 text lim s must first ((seen.add 6).add 44)).say false = ({ st1 text lim s must first ((seen.add 6).add 44) with pc := 5 } : Sre.M).say false from rfl, st1_fail, if_pos hlt]; rfl) rfl)) (by decide) hh
end
end Mine
end
section
open PySem PySem.W PySem.Calls PyProof.Rows PySem.Builtin PySem.Builtin.Re
set_option maxRecDepth 100000
namespace Mine
noncomputable def code2 : Array Nat := #[14, 9, 4, 1, 2, 16, 10, 16, 13, 0, 7, 7, 16, 13, 16, 10, 15, 18, 5, 16, 10, 15, 13, 11, 16, 13, 5, 5, 0, 16, 10, 1, 15, 2, 0, 1]
noncomputable def nsF (s : Nat) (first : Bool) : Sre.Frame := { wait := .nextStart, pc := 10, pos := s, outermost := first }
noncomputable def nbF (s alt : Nat) (first : Bool) : Sre.Frame := { wait := .nextBranch, pc := alt, pos := s, outermost := first }
noncomputable def st2 (text : Array Nat) (lim s : Nat) (seen : Sre.Seen) (pc pos : Nat) (out : Bool) (fs : List Sre.Frame) (wt : Nat) (handed : Nat) : Sre.M :=
  { code := code2, text, lim, start := s, lastStart := lim, pc, pos, handed, outermost := out, marks := #[], frames := fs, weight := wt, seen }
section
variable {text : Array Nat} {lim s pos hd : Nat} {first : Bool} {seen : Sre.Seen} {fs : List Sre.Frame} {wt : Nat}
theorem st2_branch (hw : wt + 1 ≤ 16777216) : (st2 text lim s seen 10 pos first fs wt hd).step = st2 text lim s (seen.add 7) 12 pos first (nbF pos 11 first :: fs) (wt + 1) pos := by
  have e : (st2 text lim s seen 10 pos first fs wt hd).step = if wt + 1 + 0 > 16777216 then (st2 text lim s (seen.add 7) 10 pos first fs wt hd).stick "frames:memory" else st2 text lim s (seen.add 7) 12 pos first (nbF pos 11 first :: fs) (wt + 1 + 0) pos := rfl
  rw [e, if_neg (by omega)]
theorem st2_lit12 : (st2 text lim s seen 12 pos first fs wt hd).step = if pos ≥ lim then (st2 text lim s (seen.add 16) 12 pos first fs wt hd).say false else
    if (text.getD pos 0 == 13) = true then st2 text lim s (seen.add 16) 14 (pos + 1) first fs wt hd else (st2 text lim s (seen.add 16) 12 pos first fs wt hd).say false := by
  have e : (st2 text lim s seen 12 pos first fs wt hd).step = if pos ≥ lim then (st2 text lim s (seen.add 16) 12 pos first fs wt hd).say false else
    match (Except.ok (text.getD pos 0 == 13, seen.add 16) : Except String (Bool × Sre.Seen)) with
    | .error why => (st2 text lim s (seen.add 16) 12 pos first fs wt hd).stick why
    | .ok (false, seen) => (st2 text lim s seen 12 pos first fs wt hd).say false
    | .ok (true, seen) => st2 text lim s seen 14 (pos + 1) first fs wt hd := rfl
  rw [e]
  split
  · rfl
  · cases text.getD pos 0 == 13 <;> rfl
theorem st2_lit14 : (st2 text lim s seen 14 pos first fs wt hd).step = if pos ≥ lim then (st2 text lim s (seen.add 16) 14 pos first fs wt hd).say false else
    if (text.getD pos 0 == 10) = true then st2 text lim s (seen.add 16) 16 (pos + 1) first fs wt hd else (st2 text lim s (seen.add 16) 14 pos first fs wt hd).say false := by
  have e : (st2 text lim s seen 14 pos first fs wt hd).step = if pos ≥ lim then (st2 text lim s (seen.add 16) 14 pos first fs wt hd).say false else
    match (Except.ok (text.getD pos 0 == 10, seen.add 16) : Except String (Bool × Sre.Seen)) with
    | .error why => (st2 text lim s (seen.add 16) 14 pos first fs wt hd).stick why
    | .ok (false, seen) => (st2 text lim s seen 14 pos first fs wt hd).say false
    | .ok (true, seen) => st2 text lim s seen 16 (pos + 1) first fs wt hd := rfl
  rw [e]
  split
  · rfl
  · cases text.getD pos 0 == 10 <;> rfl
theorem st2_lit19 : (st2 text lim s seen 19 pos first fs wt hd).step = if pos ≥ lim then (st2 text lim s (seen.add 16) 19 pos first fs wt hd).say false else
    if (text.getD pos 0 == 10) = true then st2 text lim s (seen.add 16) 21 (pos + 1) first fs wt hd else (st2 text lim s (seen.add 16) 19 pos first fs wt hd).say false := by
  have e : (st2 text lim s seen 19 pos first fs wt hd).step = if pos ≥ lim then (st2 text lim s (seen.add 16) 19 pos first fs wt hd).say false else
    match (Except.ok (text.getD pos 0 == 10, seen.add 16) : Except String (Bool × Sre.Seen)) with
    | .error why => (st2 text lim s (seen.add 16) 19 pos first fs wt hd).stick why
    | .ok (false, seen) => (st2 text lim s seen 19 pos first fs wt hd).say false
    | .ok (true, seen) => st2 text lim s seen 21 (pos + 1) first fs wt hd := rfl
  rw [e]
  split
  · rfl
  · cases text.getD pos 0 == 10 <;> rfl
theorem st2_lit24 : (st2 text lim s seen 24 pos first fs wt hd).step = if pos ≥ lim then (st2 text lim s (seen.add 16) 24 pos first fs wt hd).say false else
    if (text.getD pos 0 == 13) = true then st2 text lim s (seen.add 16) 26 (pos + 1) first fs wt hd else (st2 text lim s (seen.add 16) 24 pos first fs wt hd).say false := by
  have e : (st2 text lim s seen 24 pos first fs wt hd).step = if pos ≥ lim then (st2 text lim s (seen.add 16) 24 pos first fs wt hd).say false else
    match (Except.ok (text.getD pos 0 == 13, seen.add 16) : Except String (Bool × Sre.Seen)) with
    | .error why => (st2 text lim s (seen.add 16) 24 pos first fs wt hd).stick why
    | .ok (false, seen) => (st2 text lim s seen 24 pos first fs wt hd).say false
    | .ok (true, seen) => st2 text lim s seen 26 (pos + 1) first fs wt hd := rfl
  rw [e]
  split
  · rfl
  · cases text.getD pos 0 == 13 <;> rfl
theorem st2_lit29 : (st2 text lim s seen 29 pos first fs wt hd).step = if pos ≥ lim then (st2 text lim s (seen.add 16) 29 pos first fs wt hd).say false else
    if (text.getD pos 0 == 10) = true then st2 text lim s (seen.add 16) 31 (pos + 1) first fs wt hd else (st2 text lim s (seen.add 16) 29 pos first fs wt hd).say false := by
  have e : (st2 text lim s seen 29 pos first fs wt hd).step = if pos ≥ lim then (st2 text lim s (seen.add 16) 29 pos first fs wt hd).say false else
    match (Except.ok (text.getD pos 0 == 10, seen.add 16) : Except String (Bool × Sre.Seen)) with
    | .error why => (st2 text lim s (seen.add 16) 29 pos first fs wt hd).stick why
    | .ok (false, seen) => (st2 text lim s seen 29 pos first fs wt hd).say false
    | .ok (true, seen) => st2 text lim s seen 31 (pos + 1) first fs wt hd := rfl
  rw [e]
  split
  · rfl
  · cases text.getD pos 0 == 10 <;> rfl
theorem st2_jump16 : (st2 text lim s seen 16 pos first fs wt hd).step = st2 text lim s (seen.add 15) 35 pos first fs wt hd := rfl
theorem st2_jump21 : (st2 text lim s seen 21 pos first fs wt hd).step = st2 text lim s (seen.add 15) 35 pos first fs wt hd := rfl
theorem st2_jump32 : (st2 text lim s seen 32 pos first fs wt hd).step = st2 text lim s (seen.add 15) 35 pos first fs wt hd := rfl
theorem st2_end : (st2 text lim s seen 35 pos first fs wt hd).step = (st2 text lim s (seen.add 1) 35 pos first fs wt pos).say true := by
  have e : (st2 text lim s seen 35 pos first fs wt hd).step = if (first && ((false && (pos != lim)) || (false && (pos == s)))) = true then (st2 text lim s (seen.add 1) 35 pos first fs wt hd).say false else (st2 text lim s (seen.add 1) 35 pos first fs wt pos).say true := rfl
  rw [e]; simp
theorem st2_alt1 {pc : Nat} (hw : wt ≤ 1000) : ((st2 text lim s seen pc pos first (nbF hd 11 first :: fs) (wt + 1) hd).say false).step = st2 text lim s seen 19 hd first (nbF hd 18 first :: fs) (wt + 1) hd := by
  have e : ((st2 text lim s seen pc pos first (nbF hd 11 first :: fs) (wt + 1) hd).say false).step = if wt + 1 - (1 + 0) + 1 + 0 > 16777216 then (st2 text lim s seen 11 hd first fs (wt + 1 - (1 + 0)) hd).stick "frames:memory" else st2 text lim s seen 19 hd first (nbF hd 18 first :: fs) (wt + 1 - (1 + 0) + 1 + 0) hd := rfl
  rw [e, if_neg (by omega)]
  congr 1
theorem st2_alt2 {pc : Nat} (hw : wt ≤ 1000) : ((st2 text lim s seen pc pos first (nbF hd 18 first :: fs) (wt + 1) hd).say false).step = st2 text lim s seen 24 hd first (nbF hd 23 first :: fs) (wt + 1) hd := by
  have e : ((st2 text lim s seen pc pos first (nbF hd 18 first :: fs) (wt + 1) hd).say false).step = if wt + 1 - (1 + 0) + 1 + 0 > 16777216 then (st2 text lim s seen 18 hd first fs (wt + 1 - (1 + 0)) hd).stick "frames:memory" else st2 text lim s seen 24 hd first (nbF hd 23 first :: fs) (wt + 1 - (1 + 0) + 1 + 0) hd := rfl
  rw [e, if_neg (by omega)]
  congr 1
noncomputable def lnF (s : Nat) (first : Bool) : Sre.Frame := { wait := .lookNot, pc := 26, pos := s, outermost := first }
theorem st2_look (hw : wt ≤ 1000) : (st2 text lim s seen 26 pos first fs wt hd).step = st2 text lim s (seen.add 5) 29 pos false (lnF pos first :: fs) (wt + 1) pos := by
  have e : (st2 text lim s seen 26 pos first fs wt hd).step = if wt + 1 + 0 > 16777216 then (st2 text lim s (seen.add 5) 26 pos first fs wt hd).stick "frames:memory" else st2 text lim s (seen.add 5) 29 (pos - 0) false (lnF pos first :: fs) (wt + 1 + 0) (pos - 0) := rfl
  rw [e, if_neg (by omega)]
  rfl
theorem st2_looked {pc p out} : ((st2 text lim s seen pc p out (lnF pos first :: fs) (wt + 1) hd).say false).step = st2 text lim s seen 32 pos first fs wt hd := rfl
theorem st2_up {pc alt a out} : ((st2 text lim s seen pc pos out (nbF a alt first :: fs) (wt + 1) hd).say true).step = (st2 text lim s seen alt a first fs wt hd).say true := rfl
theorem st2_top {pc out} : ((st2 text lim s seen pc pos out [nsF s first] 1 hd).say true).step = (st2 text lim s seen 10 s first [] 0 hd).say true := rfl
noncomputable def end2 (text : Array Nat) (lim s : Nat) : Nat := if (text.getD s 0 == 13 && (decide (s + 1 < lim) && text.getD (s + 1) 0 == 10)) = true then s + 2 else s + 1
theorem run2 (hlt : s < lim) (hc : text.getD s 0 = 10 ∨ text.getD s 0 = 13) : ∃ k m', k ≤ 18 ∧ (st2 text lim s seen 10 s first [nsF s first] 1 hd).runFor k = m' ∧ m'.outcome = some .matched ∧ m'.start = s ∧ m'.handed = end2 text lim s := by
  have fin : ∀ {seen' pos alt hd'}, ∃ m', (st2 text lim s seen' 35 pos first [nbF s alt first, nsF s first] 2 hd').runFor 4 = m' ∧ m'.outcome = some .matched ∧ m'.start = s ∧ m'.handed = pos := fun {seen' pos alt hd'} =>
    ⟨_, go_step rfl st2_end (go_step rfl st2_up (go_step rfl st2_top (go_step rfl rfl rfl))), rfl, rfl, rfl⟩
  by_cases h13 : (text.getD s 0 == 13) = true
  · by_cases h10 : (decide (s + 1 < lim) && text.getD (s + 1) 0 == 10) = true
    · obtain ⟨h1, h2⟩ := Bool.and_eq_true_iff.mp h10
      have h1 := of_decide_eq_true h1
      have e : end2 text lim s = s + 1 + 1 := by unfold end2; rw [h13, h10]; rfl
      rw [e]
      obtain ⟨m', r, a, b, c⟩ := @fin ((((seen.add 7).add 16).add 16).add 15) (s + 1 + 1) 11 s
      exact ⟨_, m', by decide, go_step rfl (st2_branch (by decide)) (go_step rfl (by rw [st2_lit12, if_neg (by omega), if_pos h13]) (go_step rfl (by rw [st2_lit14, if_neg (by omega), if_pos h2]) (go_step rfl st2_jump16 r))), a, b, c⟩
    · have e : end2 text lim s = s + 1 := by unfold end2; rw [h13, Bool.eq_false_iff.mpr h10]; rfl
      have n10 : (text.getD s 0 == 10) ≠ true := by
        have := eq_of_beq h13
        rw [this]; decide
      have fail14 : ∀ {seen' fs' wt' hd'}, (st2 text lim s seen' 14 (s + 1) first fs' wt' hd').step = (st2 text lim s (seen'.add 16) 14 (s + 1) first fs' wt' hd').say false := fun {seen' fs' wt' hd'} => by
        rw [st2_lit14]
        split
        · rfl
        · rename_i hge
          rw [if_neg]
          intro h
          exact h10 (by rw [h, decide_eq_true (by omega)]; rfl)
      have fail29 : ∀ {seen' fs' wt' hd' out}, (st2 text lim s seen' 29 (s + 1) out fs' wt' hd').step = (st2 text lim s (seen'.add 16) 29 (s + 1) out fs' wt' hd').say false := fun {seen' fs' wt' hd' out} => by
        rw [st2_lit29]
        split
        · rfl
        · rename_i hge
          rw [if_neg]
          intro h
          exact h10 (by rw [h, decide_eq_true (by omega)]; rfl)
      rw [e]
      obtain ⟨m', r, a, b, c⟩ := @fin ((((((((seen.add 7).add 16).add 16).add 16).add 16).add 5).add 16).add 15) (s + 1) 23 (s + 1)
      exact ⟨_, m', by decide, go_step rfl (st2_branch (by decide)) (go_step rfl (by rw [st2_lit12, if_neg (by omega), if_pos h13]) (go_step rfl fail14 (go_step rfl (st2_alt1 (by decide)) (go_step rfl (by rw [st2_lit19, if_neg (by omega), if_neg n10]) (go_step rfl (st2_alt2 (by decide)) (go_step rfl (by rw [st2_lit24, if_neg (by omega), if_pos h13]) (go_step rfl (st2_look (by decide)) (go_step rfl fail29 (go_step rfl st2_looked (go_step rfl st2_jump32 r)))))))))), a, b, c⟩
  · have h10 : (text.getD s 0 == 10) = true := by
      rcases hc with h | h
      · rw [h]; rfl
      · rw [h] at h13; exact absurd rfl h13
    have e : end2 text lim s = s + 1 := by unfold end2; rw [Bool.eq_false_iff.mpr h13]; rfl
    rw [e]
    obtain ⟨m', r, a, b, c⟩ := @fin ((((seen.add 7).add 16).add 16).add 15) (s + 1) 18 s
    exact ⟨_, m', by decide, go_step rfl (st2_branch (by decide)) (go_step rfl (by rw [st2_lit12, if_neg (by omega), if_neg h13]) (go_step rfl (st2_alt1 (by decide)) (go_step rfl (by rw [st2_lit19, if_neg (by omega), if_pos h10]) (go_step rfl st2_jump21 r)))), a, b, c⟩
end
end Mine
end
section
open PySem PySem.W PySem.Calls PyProof.Rows PySem.Builtin PySem.Builtin.Re
set_option maxRecDepth 100000
namespace Mine
noncomputable def isEnd (c : Nat) : Bool := c == 10 || c == 13
noncomputable def hitE2 (text : Array Nat) (lim p : Nat) : Option Nat := if decide (p < lim) && isEnd (text.getD p 0) then some (end2 text lim p) else none
theorem inSet2 (c : Nat) (seen : Sre.Seen) : ∃ seen', Sre.inSet code2 c 36 5 true seen = .ok (isEnd c, seen') := by
  have e : Sre.inSet code2 c 36 5 true seen = if (c == 10) = true then .ok (true, seen.add 16) else if (c == 13) = true then .ok (true, (seen.add 16).add 16) else .ok (false, ((seen.add 16).add 16).add 0) := rfl
  rw [e]
  unfold isEnd
  cases c == 10
  · cases c == 13
    · exact ⟨_, rfl⟩
    · exact ⟨_, rfl⟩
  · exact ⟨_, rfl⟩
theorem admitted2 {m : Sre.M} (hc : m.code = code2) : ∀ (fuel s : Nat) (seen : Sre.Seen), m.lim + 1 - s ≤ fuel → (∃ q seen', s ≤ q ∧ q < m.lim ∧ isEnd (m.text.getD q 0) = true ∧ (∀ r, s ≤ r → r < q → isEnd (m.text.getD r 0) = false) ∧ m.admitted fuel s seen = .ok (some q, seen')) ∨ (∃ seen', (∀ r, s ≤ r → r < m.lim → isEnd (m.text.getD r 0) = false) ∧ m.admitted fuel s seen = .ok (none, seen')) := by
  intro fuel
  induction fuel with
  | zero =>
    intro s seen h
    exact .inr ⟨seen, fun r h1 h2 => by omega, rfl⟩
  | succ fuel ih =>
    intro s seen h
    unfold Sre.M.admitted
    by_cases hs : s ≥ m.lim
    · rw [if_pos hs]
      exact .inr ⟨seen, fun r h1 h2 => by omega, rfl⟩
    · rw [if_neg hs, hc]
      obtain ⟨seen', e⟩ := inSet2 (m.text.getD s 0) seen
      have sz : code2.size = 36 := rfl
      rw [sz, e]
      cases hE : isEnd (m.text.getD s 0) with
      | true => exact .inl ⟨s, seen', Nat.le_refl _, by omega, hE, fun r h1 h2 => by omega, rfl⟩
      | false =>
        rcases ih (s + 1) seen' (by omega) with ⟨q, seen'', h1, h2, h3, h4, h5⟩ | ⟨seen'', h1, h2⟩
        · exact .inl ⟨q, seen'', by omega, h2, h3, fun r hr hr' => by
            rcases Nat.lt_or_ge s r with h | h
            · exact h4 r (by omega) hr'
            · have : r = s := by omega
              subst this; exact hE, h5⟩
        · exact .inr ⟨seen'', fun r hr hr' => by
            rcases Nat.lt_or_ge s r with h | h
            · exact h1 r (by omega) hr'
            · have : r = s := by omega
              subst this; exact hE, h2⟩
theorem forSearch1 {text : Array Nat} {lim s : Nat} {must : Bool} (hs : s ≤ lim) : Found (hitE1 text lim) lim s (Sre.forSearch code1 text 0 s lim must) := by
  by_cases h : s = lim
  · subst h
    have e : Sre.forSearch code1 text 0 s s must = (Sre.forSearch code1 text 0 s s must) := rfl
    have hsay : ∃ m, Sre.forSearch code1 text 0 s s must = Sre.M.say m false ∧ m.frames = [] ∧ m.outcome = none := by
      unfold Sre.forSearch
      rw [if_pos (by
        have : (Sre.header code1).1 = 1 := rfl
        rw [this]; simp)]
      exact ⟨_, rfl, rfl, rfl⟩
    obtain ⟨m, e, hf, ho⟩ := hsay
    rw [e]
    refine .no (k := 1) (fun q hq => ?_) rfl ?_ (by omega)
    · unfold hitE1 hit1
      rw [decide_eq_false (by omega)]; simp
    · show (if (m.say false).outcome.isSome = true then m.say false else (m.say false).step).outcome = _
      have : (m.say false).outcome = none := ho
      rw [this]
      show (m.say false).step.outcome = _
      unfold Sre.M.step
      rw [this]
      have hf' : (m.say false).frames = [] := hf
      rw [hf']
      rfl
  · have e : ∃ seen, Sre.forSearch code1 text 0 s lim must = st1 text lim s must true seen := by
      unfold Sre.forSearch
      have h1 : (Sre.header code1).1 = 1 := rfl
      rw [h1, if_neg (by
        have a : ¬ (s > lim) := by omega
        have b : ¬ (lim - s < 1) := by omega
        simp [a, b])]
      exact ⟨_, rfl⟩
    obtain ⟨seen, e⟩ := e
    rw [e]
    exact search1 (lim - s) s must true seen rfl hs
theorem say_fails {m : Sre.M} (hf : m.frames = []) (ho : m.outcome = none) : ((m.say false).runFor 1).outcome = some .failed := by
  show (if (m.say false).outcome.isSome = true then m.say false else (m.say false).step).outcome = _
  have : (m.say false).outcome = none := ho
  rw [this]
  show (m.say false).step.outcome = _
  unfold Sre.M.step
  rw [this]
  have hf' : (m.say false).frames = [] := hf
  rw [hf']
  rfl
theorem forSearch2 {text : Array Nat} {lim s : Nat} {must : Bool} (hs : s ≤ lim) : Found (hitE2 text lim) lim s (Sre.forSearch code2 text 0 s lim must) := by
  by_cases h : s = lim
  · subst h
    have hsay : ∃ m, Sre.forSearch code2 text 0 s s must = Sre.M.say m false ∧ m.frames = [] ∧ m.outcome = none := by
      unfold Sre.forSearch
      rw [if_pos (by
        have : (Sre.header code2).1 = 1 := rfl
        rw [this]; simp)]
      exact ⟨_, rfl, rfl, rfl⟩
    obtain ⟨m, e, hf, ho⟩ := hsay
    rw [e]
    refine .no (k := 1) (fun q hq => ?_) rfl (say_fails hf ho) (by omega)
    unfold hitE2
    rw [decide_eq_false (by omega)]; simp
  · have e : ∃ m : Sre.M, Sre.forSearch code2 text 0 s lim must = m.attemptFrom s true ∧ m.code = code2 ∧ m.text = text ∧ m.lim = lim ∧ m.frames = [] ∧ m.outcome = none ∧ (∀ q seen, ({ m with mustAdvance := false, seen } : Sre.M).attemptAt q true = st2 text lim q seen 10 q true [nsF q true] 1 q) := by
      unfold Sre.forSearch
      have h1 : (Sre.header code2).1 = 1 := rfl
      rw [h1, if_neg (by
        have a : ¬ (s > lim) := by omega
        have b : ¬ (lim - s < 1) := by omega
        simp [a, b])]
      exact ⟨_, rfl, rfl, rfl, rfl, rfl, rfl, fun _ _ => rfl⟩
    obtain ⟨m, e, hc, ht, hl, hf, ho, ha⟩ := e
    rw [e]
    have hfs : m.hasFirstSet = true := by unfold Sre.M.hasFirstSet; rw [hc]; rfl
    unfold Sre.M.attemptFrom
    rw [hfs]
    have ad := admitted2 hc (m.lim + 1 - s) s m.seen (Nat.le_refl _)
    subst hl
    subst ht
    rcases ad with ⟨q, seen', h1, h2, h3, h4, h5⟩ | ⟨seen', h1, h2⟩
    · show Found _ _ _ (match m.admitted (m.lim + 1 - s) s m.seen with | .ok (some s, seen) => ({ m with mustAdvance := false, seen } : Sre.M).attemptAt s true | .ok (none, seen) => ({ m with seen } : Sre.M).say false | .error why => m.stick why)
      rw [h5]
      show Found _ _ _ (({ m with mustAdvance := false, seen := seen' } : Sre.M).attemptAt q true)
      rw [ha]
      obtain ⟨k, m', hk, hr, a, b, c⟩ := run2 (text := m.text) (lim := m.lim) (s := q) (hd := q) (first := true) (seen := seen') h2 (by
        unfold isEnd at h3
        rcases Bool.or_eq_true_iff.mp h3 with h | h
        · exact .inl (eq_of_beq h)
        · exact .inr (eq_of_beq h))
      refine .yes h1 h2 (show hitE2 m.text m.lim q = some (end2 m.text m.lim q) by unfold hitE2; rw [decide_eq_true h2, h3]; rfl) (fun r hr1 hr2 => ?_) hr a b c (by omega)
      unfold hitE2
      rw [h4 r hr1 hr2]; simp
    · show Found _ _ _ (match m.admitted (m.lim + 1 - s) s m.seen with | .ok (some s, seen) => ({ m with mustAdvance := false, seen } : Sre.M).attemptAt s true | .ok (none, seen) => ({ m with seen } : Sre.M).say false | .error why => m.stick why)
      rw [h2]
      refine .no (k := 1) (fun q hq => ?_) rfl (say_fails hf ho) (by omega)
      unfold hitE2
      by_cases hql : q < m.lim
      · rw [h1 q hq hql]; simp
      · rw [decide_eq_false hql]; simp
end Mine
end
section
open PySem PySem.W PySem.Calls PyProof.Rows PySem.Builtin PySem.Builtin.Re
set_option maxRecDepth 100000
namespace Mine
namespace HF2
theorem plain_sub_loop : plainId "re.Pattern.sub.loop" = true := by decide +kernel
theorem entry_sub_loop : entryFor table "re.Pattern.sub.loop" = some Builtin.«re.Pattern.sub.loop» := entryFor_of_tree (by kernel_rfl)
theorem plain_sub : plainId "re.Pattern.sub" = true := by decide +kernel
theorem slot_sub : Slot "re.Pattern" "sub" "re.Pattern.sub" :=
  .of (owner := "re.Pattern") (n := "sub") (by rw [typeLookup_type, builtinLookup_eq_fast]; kernel_rfl) (by decide +kernel) (by decide +kernel) (by decide +kernel)
    (by first | exact .inl (by decide +kernel) | exact .inr (by decide +kernel)) (by rw [isSubtype_type]; kernel_rfl)
theorem entry_sub : entryFor table "re.Pattern.sub" = some Builtin.«re.Pattern.sub» := entryFor_of_tree (by kernel_rfl)
theorem type_sub : typeOf (.builtin "re.Pattern.sub") = pure (.type "method_descriptor") := by show builtinType _ = _; rw [builtinType_eq_fast]; kernel_rfl
end HF2
noncomputable def tgt (a : Addr) (x : Str) (t : Tok) (code : Array Nat) : ReTarget := { pattern := .ref a, string := .str x t, code, text := x.cps, kind := 0, groups := 0, pos := 0, lim := x.cps.size }
section
variable {prog : Program} {w : World} {A : Around} {E : Value → Shared → Prop} {s : Shared}
theorem target_any {a : Addr} {x : Str} {t : Tok} {code : Array Nat} {Q : ReTarget → Shared → Prop} (h : PatAt s.heap a code) (hQ : Q (tgt a x t code) s) : wpAny (model prog w) A (reWholeTarget (.ref a) (.str x t)) Q E s := by
  obtain ⟨o, fs, b, o2, vs, n, h1, h2, h3, h4, h5, h6, h7, h8, h9, h10⟩ := h.at'
  unfold reWholeTarget
  refine wpAny_bind (wpAny_fieldsOf h1 h4 ?_)
  refine wpAny_bind (m := reTextOf (.str x t)) (wpAny_pure ?_)
  dsimp only
  rw [h5]
  rw [if_neg (by decide), if_neg (by decide)]
  refine wpAny_bind (m := reNoCollectionInside (.str x t) 0) (wpAny_pure ?_)
  rw [h7]
  unfold reRawItems
  refine wpAny_bind (wpAny_bind (wpAny_seqItems h8 h9 (wpAny_pure ?_)))
  refine wpAny_pure ?_
  show Q { pattern := .ref a, string := .str x t, code := (vs.map reRawOf).map (·.toNat), text := x.cps, kind := 0, groups := reRawNat (fs.getD 2 .none), pos := 0, lim := x.cps.size } s
  rw [h10, h6]
  exact hQ
inductive Pieces (hit : Nat → Option Nat) (x r : Str) : Nat → List Str → Prop
  | last {d} : d ≤ x.cps.size → (∀ q, d ≤ q → hit q = none) → Pieces hit x r d (if d < x.cps.size then [⟨x.cps.extract d x.cps.size⟩] else [])
  | more {d p e l} : d ≤ p → p < x.cps.size → hit p = some e → (∀ q, d ≤ q → q < p → hit q = none) → Pieces hit x r e l → Pieces hit x r d ((if d < p then [⟨x.cps.extract d p⟩] else []) ++ (r :: l))
theorem pieces_of {hit : Nat → Option Nat} {x r : Str} (hf : ∀ p e, hit p = some e → p < e ∧ e ≤ x.cps.size) : ∀ (n d : Nat), x.cps.size - d = n → d ≤ x.cps.size → (∀ q, x.cps.size ≤ q → hit q = none) → ∃ l, Pieces hit x r d l := by
  intro n
  induction n using Nat.strongRecOn with
  | ind n ih =>
    intro d hn hd hq
    by_cases h : ∃ p, d ≤ p ∧ p < x.cps.size ∧ (hit p).isSome = true ∧ ∀ q, d ≤ q → q < p → hit q = none
    · obtain ⟨p, h1, h2, h3, h4⟩ := h
      obtain ⟨e, he⟩ := Option.isSome_iff_exists.mp h3
      obtain ⟨f1, f2⟩ := hf p e he
      obtain ⟨l, hl⟩ := ih (x.cps.size - e) (by omega) e rfl f2 hq
      exact ⟨_, .more h1 h2 he h4 hl⟩
    · refine ⟨_, .last hd fun q hdq => ?_⟩
      have main : ∀ k q, q - d ≤ k → d ≤ q → hit q = none := by
        intro k
        induction k using Nat.strongRecOn with
        | ind k ihk =>
          intro q hk hdq
          cases hh : hit q with
          | none => rfl
          | some e =>
            exfalso
            have hlt : q < x.cps.size := by
              rcases Nat.lt_or_ge q x.cps.size with h' | h'
              · exact h'
              · rw [hq q h'] at hh; cases hh
            refine h ⟨q, hdq, hlt, by rw [hh]; rfl, fun q' h1 h2 => ihk (q' - d) (by omega) q' (Nat.le_refl _) h1⟩
      exact main _ q (Nat.le_refl _) hdq
theorem lit_any {r : Str} {t : Tok} {Q : Unit → Shared → Prop} (h : Q () s) : wpAny (model prog w) A (reLiteralCannotBeTurned (.str r t)) Q E s := wpAny_pure h
theorem push_at {L : Addr} {v : Value} {its : Array Value} {c : Nat} {Q : Unit → Shared → Prop} (hL : s.heap.get? L = some (listOf its c)) (hsz : its.size ≤ sizeLine)
    (hQ : ∀ h', Heap.SameBut L s.heap h' → h'.get? L = some (listOf (its.push v) (c + 1)) → Q () { s with heap := h' }) : wpAny (model prog w) A (updateSeq L fun x => x.push v) Q E s := by
  refine wpAny_updateSeq hL rfl (hQ _ (Heap.SameBut.update ..) ?_)
  rw [Heap.get?_update_self _ hL (by rw [mapSeq_push]; rfl), mapSeq_push]
theorem sub_turn {a L : Addr} {x r : Str} {t u : Tok} {code : Array Nat} {n d : Nat} {must : Bool} {its : Array Value} {c : Nat} {Q : Fin → Shared → Prop}
    (hp : PatAt s.heap a code) (hL : s.heap.get? L = some (listOf its c)) {m : Sre.M} (hm : m.start ≤ x.cps.size) (hsz : its.size + 2 ≤ 100000) (hxs : x.cps.size ≤ 100000)
    (hrun : ∀ (Q : Option Sre.M → Shared → Prop) E s, Q (some m) s → wpAny (model prog w) A (reNextFound (tgt a x t code) d must) Q E s)
    (hQ : ∀ h' tk its' c', (∀ b o, b ≠ L → s.heap.get? b = some o → h'.get? b = some o) → h'.get? L = some (listOf its' c') → s.toks ≤ tk →
      ((∃ v, d < m.start ∧ its' = (its.push (.str ⟨x.cps.extract d m.start⟩ v)).push (.str r u)) ∨ (¬ d < m.start ∧ its' = its.push (.str r u))) →
      Q (.again (.builtin "re.Pattern.sub.loop" ⟨[.ref a, .str x t, .str r u, rawInt 0, rawInt 0, rawInt (n + 1), rawInt m.handed, rawInt m.handed, .bool (m.handed == m.start), .ref L, .bool false], []⟩)) { s with heap := h', toks := tk }) :
    wpAny (model prog w) A (Builtin.«re.Pattern.sub.loop» ⟨[.ref a, .str x t, .str r u, rawInt 0, rawInt 0, rawInt n, rawInt d, rawInt d, .bool must, .ref L, .bool false], []⟩) Q E s := by
  unfold Builtin.«re.Pattern.sub.loop»
  refine wpAny_bind (target_any hp ?_)
  dsimp only
  refine wpAny_bind (lit_any ?_)
  show wpAny _ _ (reNextFound (tgt a x t code) d must >>= _) _ _ _
  refine wpAny_bind (hrun _ _ _ ?_)
  dsimp only
  have big : 100000 ≤ sizeLine := by decide
  split
  · rename_i hlt
    have hlt' : d < m.start := hlt
    refine wpAny_bind (m := reSlice _ _ _ _) (wpAny_mkStr ?_ ?_)
    · refine wpAny_bind (push_at hL (Nat.le_trans (by omega) big) fun h₁ hs₁ hL₁ => ?_)
      refine wpAny_bind (m := pure _) (wpAny_pure ?_)
      refine wpAny_bind (push_at hL₁ (Nat.le_trans (by rw [Array.size_push]; omega) big) fun h₂ hs₂ hL₂ => ?_)
      exact wpAny_pure (hQ h₂ _ _ _ (fun b o hb e => (hs₂.2 b hb).trans ((hs₁.2 b hb).trans e)) hL₂ (Nat.le_succ _) (.inl ⟨_, hlt', rfl⟩))
    · show (x.cps.extract d m.start).size ≤ sizeLine
      rw [Array.size_extract]; exact Nat.le_trans (by omega) big
  · rename_i hlt
    have hlt' : ¬ d < m.start := hlt
    refine wpAny_bind (m := pure _) (wpAny_pure ?_)
    refine wpAny_bind (push_at hL (Nat.le_trans (by omega) big) fun h₂ hs₂ hL₂ => ?_)
    exact wpAny_pure (hQ h₂ _ _ _ (fun b o hb e => (hs₂.2 b hb).trans e) hL₂ (Nat.le_refl _) (.inr ⟨hlt', rfl⟩))
theorem strsAre_values' : ∀ l : List (Str × Tok), StrsAre (strValues l) (l.map (·.1))
  | [] => .nil
  | p :: r => .cons _ _ (strsAre_values' r)
theorem tail_any {L : Addr} {l : List (Str × Tok)} {c : Nat} {text : Array Nat} {n : Int} {Q : PySem.Fin → Shared → Prop} (hL : s.heap.get? L = some (listOf (strValues l).toArray c))
    (hsz : l.length ≤ 100000) (hlen : ((l.map (·.1)).map (·.length)).sum ≤ 10000000) (hQ : ∀ tk v, s.toks ≤ tk → Q (.done (.ret (.str (Txt.join "" (l.map (·.1))) v))) { s with toks := tk }) :
    wpAny (model prog w) A (do
      let joiner ← reSlice text 0 0 0
      let its ← seqItems? (Value.ref L)
      if (its.getD #[]).isEmpty = true then do
          let text ← pure joiner
          if false = true then do
              let k ← holding [text] do
                    let k ← mkInt n
                    newTuple [text, k]
              ret k
            else ret text
        else do
          let text ← call (Value.builtin (if (0 == 0) = true then "str.join" else "bytes.join")) [joiner, Value.ref L]
          if false = true then do
              let k ← holding [text] do
                    let k ← mkInt n
                    newTuple [text, k]
              ret k
            else ret text) Q E s := by
  have e0 : (⟨text.extract 0 0⟩ : Str) = Str.ofString "" := by
    apply Str.ext'
    show text.extract 0 0 = #[]
    simp
  refine wpAny_bind (m := reSlice text 0 0 0) (wpAny_mkStr ?_ ?_)
  · refine wpAny_bind (wpAny_seqItems hL rfl ?_)
    show wpAny _ _ (if ((strValues l).toArray).isEmpty = true then _ else _) _ _ _
    split
    · rename_i he
      have hl : l = [] := by
        cases l with
        | nil => rfl
        | cons p r => simp [strValues] at he
      subst hl
      refine wpAny_bind (wpAny_pure ?_)
      rw [if_neg Bool.false_ne_true, e0]
      exact wpAny_pure (hQ _ _ (Nat.le_succ _))
    · rw [e0, if_pos (by decide)]
      refine wpAny_bind (wpAny_with_toks (n := s.toks) (Nat.le_succ _) (join_list (items := (strValues l).toArray) ⟨_, hL, rfl, c, rfl⟩ (ys := l.map (·.1)) ?_ ?_ fun t' k => ?_))
      · rw [List.toList_toArray]
        exact strsAre_values' l
      · have : (Str.ofString "").length = 0 := rfl
        rw [this]; omega
      · intro (hk : s.toks ≤ k)
        rw [if_neg Bool.false_ne_true]
        exact wpAny_pure (hQ k t' hk)
  · show (text.extract 0 0).size ≤ sizeLine
    simp
theorem sub_end {a L : Addr} {x r : Str} {t u : Tok} {code : Array Nat} {n d : Nat} {must : Bool} {l : List (Str × Tok)} {c : Nat} {Q : PySem.Fin → Shared → Prop}
    (hp : PatAt s.heap a code) (hL : s.heap.get? L = some (listOf (strValues l).toArray c)) (hsz : l.length + 2 ≤ 100000) (hxs : x.cps.size ≤ 100000)
    (hlen : ((l.map (·.1)).map (·.length)).sum ≤ 1000000)
    (hrun : ∀ (Q : Option Sre.M → Shared → Prop) E s, Q none s → wpAny (model prog w) A (reNextFound (tgt a x t code) d must) Q E s)
    (hQ : ∀ h' tk v, (∀ b o, b ≠ L → s.heap.get? b = some o → h'.get? b = some o) → s.toks ≤ tk →
      Q (.done (.ret (.str (Txt.join "" ((l.map (·.1)) ++ (if d < x.cps.size then [⟨x.cps.extract d x.cps.size⟩] else []))) v))) { s with heap := h', toks := tk }) :
    wpAny (model prog w) A (Builtin.«re.Pattern.sub.loop» ⟨[.ref a, .str x t, .str r u, rawInt 0, rawInt 0, rawInt n, rawInt d, rawInt d, .bool must, .ref L, .bool false], []⟩) Q E s := by
  unfold Builtin.«re.Pattern.sub.loop»
  refine wpAny_bind (target_any hp ?_)
  dsimp only
  refine wpAny_bind (lit_any ?_)
  show wpAny _ _ (reNextFound (tgt a x t code) d must >>= _) _ _ _
  refine wpAny_bind (hrun _ _ _ ?_)
  dsimp only
  have big : 100000 ≤ sizeLine := by decide
  split
  · rename_i hlt
    have hlt' : d < x.cps.size := hlt
    refine wpAny_bind (m := reSlice _ _ _ _) (wpAny_mkStr ?_ ?_)
    · refine wpAny_bind (push_at hL (Nat.le_trans (by simp [strValues]; omega) big) fun h₁ hs₁ hL₁ => ?_)
      have e1 : (strValues l).toArray.push (.str ⟨x.cps.extract d x.cps.size⟩ s.toks) = (strValues (l ++ [(⟨x.cps.extract d x.cps.size⟩, s.toks)])).toArray := by simp [strValues]
      refine tail_any (l := l ++ [(⟨x.cps.extract d x.cps.size⟩, s.toks)]) (c := c + 1) (by rw [← e1]; exact hL₁) (by simp; omega) ?_ fun tk v htk => ?_
      · simp only [List.map_append, List.sum_append, List.map_cons, List.map_nil, List.sum_cons, List.sum_nil]
        have : (⟨x.cps.extract d x.cps.size⟩ : Str).length ≤ 100000 := by show (x.cps.extract d x.cps.size).size ≤ _; rw [Array.size_extract]; omega
        omega
      · have := hQ h₁ tk v (fun b o hb e => (hs₁.2 b hb).trans e) (Nat.le_trans (Nat.le_succ _) htk)
        rw [if_pos hlt'] at this
        rw [List.map_append]
        exact this
    · show (x.cps.extract d x.cps.size).size ≤ sizeLine
      rw [Array.size_extract]; exact Nat.le_trans (by omega) big
  · rename_i hlt
    have hlt' : ¬ d < x.cps.size := hlt
    refine tail_any hL (by omega) (by omega) fun tk v htk => ?_
    have := hQ s.heap tk v (fun _ _ _ e => e) htk
    rw [if_neg hlt', List.append_nil] at this
    exact this
end
end Mine
end
section
open PySem PySem.W PySem.Calls PyProof.Rows PySem.Builtin PySem.Builtin.Re
set_option maxRecDepth 100000
namespace Mine
section
variable {prog : Program} {w : World} {A : Around} {E : Value → Shared → Prop} {s : Shared}
theorem next_any {hit : Nat → Option Nat} {code : Array Nat} {a : Addr} {x : Str} {t : Tok} {d : Nat} {must : Bool} (hx : x.cps.size ≤ 100000) (h : Found hit x.cps.size d (Sre.forSearch code x.cps 0 d x.cps.size must)) :
    (∃ m p e, d ≤ p ∧ p < x.cps.size ∧ hit p = some e ∧ (∀ q, d ≤ q → q < p → hit q = none) ∧ m.start = p ∧ m.handed = e ∧ ∀ (A : Around) (Q : Option Sre.M → Shared → Prop) E s, Q (some m) s → wpAny (model prog w) A (reNextFound (tgt a x t code) d must) Q E s) ∨
    ((∀ q, d ≤ q → hit q = none) ∧ ∀ (A : Around) (Q : Option Sre.M → Shared → Prop) E s, Q none s → wpAny (model prog w) A (reNextFound (tgt a x t code) d must) Q E s) := by
  cases h with
  | @yes p e k m' h1 h2 h3 h4 h5 h6 h7 h8 h9 =>
    exact .inl ⟨m', p, e, h1, h2, h3, h4, h7, h8, fun A Q E s hQ => runToEnd_any (m' := m') ⟨by rw [h6]; rfl, k, by omega, h5⟩ ⟨fun _ => hQ, fun h => by rw [h6] at h; cases h⟩ (.inl h6)⟩
  | @no k m' h1 h2 h3 h4 =>
    exact .inr ⟨h1, fun A Q E s hQ => runToEnd_any (m' := m') ⟨by rw [h3]; rfl, k, by omega, h2⟩ ⟨fun h => (by rw [h3] at h; cases h), fun _ => hQ⟩ (.inr h3)⟩
theorem patAt_but {h h' : Heap} {a L : Addr} {code : Array Nat} {its : Array Value} {c : Nat} (x : PatAt h a code) (hL : h.get? L = some (listOf its c)) (hT : ∀ b o, h.get? b = some o → o.cls ≠ .type "list" → h'.get? b = some o) (ht : ∀ o fs b, h.get? a = some o → o.data = .fields fs → fs.getD 5 .none = .ref b → ∃ o2, h.get? b = some o2 ∧ o2.cls ≠ .type "list") : PatAt h' a code := by
  obtain ⟨o, fs, b, o2, vs, n, h1, h2, h3, h4, h5, h6, h7, h8, h9⟩ := x.at'
  obtain ⟨o3, e3, n3⟩ := ht o fs b h1 h4 h7
  rw [h8] at e3; cases e3
  exact ⟨o, fs, b, o2, vs, n, hT _ _ h1 (by rw [h2]; decide), h2, h3, h4, h5, h6, h7, hT _ _ h8 n3, h9⟩
theorem sub_loop {hit : Nat → Option Nat} {code : Array Nat} {a L : Addr} {x r : Str} {t u : Tok} (hs : ∀ d must, d ≤ x.cps.size → Found hit x.cps.size d (Sre.forSearch code x.cps 0 d x.cps.size must)) (hf : ∀ p e, hit p = some e → p < e ∧ e ≤ x.cps.size) (hx : x.cps.size ≤ 10000) (hr : r.length ≤ 10) :
    ∀ {d : Nat} {l : List Str}, Pieces hit x r d l → ∀ (n : Nat) (must : Bool) (l0 : List (Str × Tok)) (c : Nat) (s : Shared) (R : Result → Shared → Prop), d ≤ x.cps.size → (∀ h', (∀ b o, b ≠ L → s.heap.get? b = some o → h'.get? b = some o) → PatAt h' a code) →
      s.heap.get? L = some (listOf (strValues l0).toArray c) → l0.length ≤ 2 * d → ((l0.map (·.1)).map (·.length)).sum ≤ 11 * d →
      (∀ h' tk v, (∀ b o, b ≠ L → s.heap.get? b = some o → h'.get? b = some o) → s.toks ≤ tk → R (.ok (.ret (.str (Txt.join "" (l0.map (·.1) ++ l)) v))) { s with heap := h', toks := tk }) →
      codeAny (model prog w) A (.builtin "re.Pattern.sub.loop" ⟨[.ref a, .str x t, .str r u, rawInt 0, rawInt 0, rawInt n, rawInt d, rawInt d, .bool must, .ref L, .bool false], []⟩) R s := by
  intro d l hp
  induction hp with
  | @last d hd hnone =>
    intro n must l0 c s R hd' hpat hL hl0 hlen hR
    refine codeAny_builtin HF2.entry_sub_loop ?_
    rw [Around.under_plainId HF2.plain_sub_loop _]
    rcases next_any (prog := prog) (w := w) (t := t) (a := a) (x := x) (must := must) (by omega) (hs d must hd') with ⟨m, p, e, h1, h2, h3, h4, h5, h6, h7⟩ | ⟨h1, h2⟩
    · rw [hnone p h1] at h3; cases h3
    · exact sub_end (hpat _ fun _ _ _ e => e) hL (by omega) (by omega) (by omega) (fun Q E s hQ => h2 _ Q E s hQ) fun h' tk v k1 k2 => hR h' tk v k1 k2
  | @more d p e l h1 h2 h3 h4 hrest ih =>
    intro n must l0 c s R hd' hpat hL hl0 hlen hR
    refine codeAny_builtin HF2.entry_sub_loop ?_
    rw [Around.under_plainId HF2.plain_sub_loop _]
    rcases next_any (prog := prog) (w := w) (t := t) (a := a) (x := x) (must := must) (by omega) (hs d must hd') with ⟨m, p', e', g1, g2, g3, g4, g5, g6, g7⟩ | ⟨g1, g2⟩
    · have hpp : p' = p := by
        rcases Nat.lt_trichotomy p' p with h | h | h
        · rw [h4 p' g1 h] at g3; cases g3
        · exact h
        · rw [g4 p h1 h] at h3; cases h3
      subst hpp
      rw [h3] at g3; cases g3
      obtain ⟨f1, f2⟩ := hf p' e h3
      refine sub_turn (hpat _ fun _ _ _ e => e) hL (by omega) (by simp [strValues]; omega) (by omega) (fun Q E s hQ => g7 _ Q E s hQ) fun h' tk its' c' k1 hL' htk hits => ⟨plainId_quiet HF2.plain_sub_loop _, ?_⟩
      rw [g6]
      rcases hits with ⟨v, hlt, rfl⟩ | ⟨hlt, rfl⟩
      · have e1 : ((strValues l0).toArray.push (.str ⟨x.cps.extract d m.start⟩ v)).push (.str r u) = (strValues (l0 ++ [(⟨x.cps.extract d p'⟩, v), (r, u)])).toArray := by rw [g5]; simp [strValues]
        rw [e1] at hL'
        refine ih (n + 1) _ (l0 ++ [(⟨x.cps.extract d p'⟩, v), (r, u)]) c' _ R f2 (fun h'' k2 => hpat _ fun b o hb e => k2 b o hb (k1 b o hb e)) hL' (by simp; omega) ?_ fun h'' tk' v' k2 k3 => ?_
        · simp only [List.map_append, List.sum_append, List.map_cons, List.map_nil, List.sum_cons, List.sum_nil]
          have : (⟨x.cps.extract d p'⟩ : Str).length ≤ p' - d := by show (x.cps.extract d p').size ≤ _; rw [Array.size_extract]; omega
          omega
        · have := hR h'' tk' v' (fun b o hb e => k2 b o hb (k1 b o hb e)) (Nat.le_trans htk k3)
          rw [if_pos (by omega)] at this
          simpa using this
      · have e1 : (strValues l0).toArray.push (.str r u) = (strValues (l0 ++ [(r, u)])).toArray := by simp [strValues]
        rw [e1] at hL'
        refine ih (n + 1) _ (l0 ++ [(r, u)]) c' _ R f2 (fun h'' k2 => hpat _ fun b o hb e => k2 b o hb (k1 b o hb e)) hL' (by simp; omega) ?_ fun h'' tk' v' k2 k3 => ?_
        · simp only [List.map_append, List.sum_append, List.map_cons, List.map_nil, List.sum_cons, List.sum_nil]; omega
        · have := hR h'' tk' v' (fun b o hb e => k2 b o hb (k1 b o hb e)) (Nat.le_trans htk k3)
          rw [if_neg (by omega)] at this
          simpa using this
    · rw [g1 p h1] at h3; cases h3
end
end Mine
end
section
open PySem PySem.W PySem.Calls PyProof.Rows PySem.Builtin PySem.Builtin.Str PySem.Spec PySem.SeqAt
set_option maxRecDepth 100000
namespace Mine
namespace HF
theorem lk_str_gi : typeLookup (.type "str") "__getitem__" = pure (some (.builtin "str.__getitem__")) := PySem.F.slot_str_getitem.lookup
theorem ty_str_gi : typeOf (.builtin "str.__getitem__") = pure (.type "wrapper_descriptor") := by show builtinType _ = _; rw [builtinType_eq_fast]; kernel_rfl
theorem slot_wd_get : Slot "wrapper_descriptor" "__get__" "wrapper_descriptor.__get__" :=
  .of (owner := "wrapper_descriptor") (n := "__get__") (by rw [typeLookup_type, builtinLookup_eq_fast]; kernel_rfl) (by decide +kernel) (by decide +kernel) (by decide +kernel)
    (by first | exact .inl (by decide +kernel) | exact .inr (by decide +kernel)) (by rw [isSubtype_type]; kernel_rfl)
theorem noset_wd : typeLookup (.type "wrapper_descriptor") "__set__" = pure none := by rw [typeLookup_type, builtinLookup_eq_fast]; kernel_rfl
theorem nodel_wd : typeLookup (.type "wrapper_descriptor") "__delete__" = pure none := by rw [typeLookup_type, builtinLookup_eq_fast]; kernel_rfl
theorem entry_wd_get : entryFor table "wrapper_descriptor.__get__" = some Builtin.«wrapper_descriptor.__get__» := entryFor_of_tree (by kernel_rfl)
theorem args_wd_get (a b c : Value) : argsOk "wrapper_descriptor.__get__" ⟨[a, b, c], []⟩ := by unfold argsOk; kernel_rfl
theorem owner_str_gi : (".".intercalate ("str.__getitem__".cutAt '.').dropLast) = "str" := by
  have e0 : "str.__getitem__".cutAt '.' = ["str", "__getitem__"] := by first | rfl | decide +kernel
  rw [e0]; decide +kernel
theorem sub_str_owner : isSubtype (.type "str") (.type (".".intercalate ("str.__getitem__".cutAt '.').dropLast)) = pure true := by
  rw [owner_str_gi, isSubtype_type]; kernel_rfl
theorem slot_md_get : Slot "method_descriptor" "__get__" "method_descriptor.__get__" :=
  .of (owner := "method_descriptor") (n := "__get__") (by rw [typeLookup_type, builtinLookup_eq_fast]; kernel_rfl) (by decide +kernel) (by decide +kernel) (by decide +kernel)
    (by first | exact .inl (by decide +kernel) | exact .inr (by decide +kernel)) (by rw [isSubtype_type]; kernel_rfl)
theorem noset_md : typeLookup (.type "method_descriptor") "__set__" = pure none := by rw [typeLookup_type, builtinLookup_eq_fast]; kernel_rfl
theorem nodel_md : typeLookup (.type "method_descriptor") "__delete__" = pure none := by rw [typeLookup_type, builtinLookup_eq_fast]; kernel_rfl
theorem entry_md_get : entryFor table "method_descriptor.__get__" = some Builtin.«method_descriptor.__get__» := entryFor_of_tree (by kernel_rfl)
theorem args_md_get (a b c : Value) : argsOk "method_descriptor.__get__" ⟨[a, b, c], []⟩ := by unfold argsOk; kernel_rfl
theorem owner_list_gi : (".".intercalate ("list.__getitem__".cutAt '.').dropLast) = "list" := by
  have e0 : "list.__getitem__".cutAt '.' = ["list", "__getitem__"] := by first | rfl | decide +kernel
  rw [e0]; decide +kernel
theorem sub_list_owner : isSubtype (.type "list") (.type (".".intercalate ("list.__getitem__".cutAt '.').dropLast)) = pure true := by
  rw [owner_list_gi, isSubtype_type]; kernel_rfl
end HF
section
variable {prog : Program} {w : World} {A : Around} {E : Value → Shared → Prop} {h : Heap} {g : Array GenState} {d : Drawn} {t : Nat} {os : OsState} {x : Str} {u : Tok}
theorem gi_get_str {R : Result → Shared → Prop} (hq : R (.ok (.ret (.ref h.objs.size))) ⟨h.push { cls := .type "method-wrapper", data := .fields #[.builtin "str.__getitem__", .str x u] }, g, d, t, os⟩) :
    codeAny (model prog w) A (.call (.builtin "wrapper_descriptor.__get__") ⟨[.builtin "str.__getitem__", .str x u, .type "str"], []⟩) R ⟨h, g, d, t, os⟩ := by
  have hT : (⟨h, g, d, t, os⟩ : Shared).TypeIs (.str x u) "str" := rfl
  have hT5 : (⟨h, g, d, t, os⟩ : Shared).TypeIs (.builtin "str.__getitem__") "wrapper_descriptor" := HF.ty_str_gi
  have f8 := HF.sub_str_owner
  refine codeAny_call_builtin HF.slot_wd_get.plain HF.entry_wd_get (HF.slot_wd_get.check _ _ _ _ _ _ _ _ hT5 (HF.args_wd_get _ _ _) ?_)
  repeat (any_goals (first | assumption | wp_step))
theorem gi_entry_str {tk : Tok} {Q : Fin → Shared → Prop} (hq : Q (.done (.ret (.ref h.objs.size))) ⟨h.push { cls := .type "method-wrapper", data := .fields #[.builtin "str.__getitem__", .str x u] }, g, d, t, os⟩) :
    wpAny (model prog w) A (Builtin.«object.__getattribute__» ⟨[.str x u, .str "__getitem__" tk], []⟩) Q E ⟨h, g, d, t, os⟩ := by
  have hT : (⟨h, g, d, t, os⟩ : Shared).TypeIs (.str x u) "str" := rfl
  have hT5 : (⟨h, g, d, t, os⟩ : Shared).TypeIs (.builtin "str.__getitem__") "wrapper_descriptor" := HF.ty_str_gi
  have f4 := HF.lk_str_gi
  have f5 := HF.ty_str_gi
  have f6 := HF.slot_wd_get.lookup
  have f7 := HF.noset_wd
  have f8 := HF.nodel_wd
  repeat (any_goals (first | assumption | wp_step))
  refine gi_get_str ?_
  repeat (any_goals (first | assumption | wp_step))
theorem gi_call_str {tk : Tok} {R : Result → Shared → Prop} (hq : R (.ok (.ret (.ref h.objs.size))) ⟨h.push { cls := .type "method-wrapper", data := .fields #[.builtin "str.__getitem__", .str x u] }, g, d, t, os⟩) :
    codeAny (model prog w) A (.call (.builtin "object.__getattribute__") ⟨[.str x u, .str "__getitem__" tk], []⟩) R ⟨h, g, d, t, os⟩ :=
  codeAny_call_builtin PySem.F.slot_str_getattribute.plain PySem.F.entry_object_getattribute (PySem.F.slot_str_getattribute.check _ _ _ _ _ _ _ _ (show (⟨h, g, d, t, os⟩ : Shared).TypeIs (.str x u) "str" from rfl) (PySem.F.args_object_getattribute_2 _ _) (gi_entry_str hq))
theorem gi_by_str {tk : Tok} {Q : Value → Shared → Prop} (hq : Q (.ref h.objs.size) ⟨h.push { cls := .type "method-wrapper", data := .fields #[.builtin "str.__getitem__", .str x u] }, g, d, t, os⟩) : wpAny (model prog w) A (getAttrBy (.str x u) (.str "__getitem__" tk) false) Q E ⟨h, g, d, t, os⟩ := by
  have hT : (⟨h, g, d, t, os⟩ : Shared).TypeIs (.str x u) "str" := rfl
  have f2 := PySem.F.slot_str_getattribute.lookup
  have f3 := PySem.F.slot_str_getattribute.bind (.str x u)
  repeat (any_goals (first | assumption | wp_step))
  refine gi_call_str ?_
  repeat (any_goals (first | assumption | wp_step))
theorem gi_q_str {tk : Tok} {Q : Option Value → Shared → Prop} (hq : Q (some (.ref h.objs.size)) ⟨h.push { cls := .type "method-wrapper", data := .fields #[.builtin "str.__getitem__", .str x u] }, g, d, t, os⟩) :
    wpAny (model prog w) A (getAttrBy? (.str x u) (.str "__getitem__" tk)) Q E ⟨h, g, d, t, os⟩ := by
  unfold getAttrBy?
  repeat (any_goals (first | assumption | with_reducible apply gi_by_str | wp_step))
theorem hasattr_str {tk : Tok} {Q : Fin → Shared → Prop} (hq : Q (.done (.ret (.bool true))) ⟨h.push { cls := .type "method-wrapper", data := .fields #[.builtin "str.__getitem__", .str x u] }, g, d, t, os⟩) :
    wpAny (model prog w) A (Builtin.«hasattr» ⟨[.str x u, .str "__getitem__" tk], []⟩) Q E ⟨h, g, d, t, os⟩ := by
  have hT : (⟨h, g, d, t, os⟩ : Shared).TypeIs (.str x u) "str" := rfl
  have f4 := HF.lk_str_gi
  have f2 := PySem.F.slot_str_getattribute.lookup
  unfold Builtin.«hasattr»
  refine wpAny_bind (m := someArgs "hasattr" 2 2 _) (wpAny_pure ?_)
  dsimp only
  refine wpAny_bind (wpAny_pure ?_)
  rw [if_neg (fun hh => by cases hh)]
  refine wpAny_bind (wpAny_typeOf hT ?_)
  dsimp only
  refine wpAny_bind (wpAny_pure ?_)
  dsimp only
  refine wpAny_bind (wpAny_of_eq f4 ?_)
  dsimp only
  refine wpAny_bind (wpAny_of_eq f2 ?_)
  have we : (withoutEnding? "str.__getitem__" "#data").isSome = false := by decide +kernel
  rw [we, Bool.false_and, if_neg Bool.false_ne_true]
  refine wpAny_bind (wpAny_pure ?_)
  rw [if_neg (by decide)]
  refine wpAny_bind (gi_q_str ?_)
  rw [if_neg (fun hh => by cases hh)]
  exact wpAny_pure hq
theorem call_hasattr_str {tk : Tok} {Q : Value → Shared → Prop} (hq : Q (.bool true) ⟨h.push { cls := .type "method-wrapper", data := .fields #[.builtin "str.__getitem__", .str x u] }, g, d, t, os⟩) :
    wpAny (model prog w) A (call (.builtin "hasattr") [.str x u, .str "__getitem__" tk]) Q E ⟨h, g, d, t, os⟩ := by
  refine Calls.call_function_entry (id := "hasattr") (b := Builtin.«hasattr») (by decide +kernel) (by decide +kernel) (entryFor_of_tree (by kernel_rfl)) (by unfold argsOk; kernel_rfl) ?_
  exact hasattr_str ⟨_, rfl, hq⟩
end
section
variable {prog : Program} {w : World} {A : Around} {E : Value → Shared → Prop} {h : Heap} {g : Array GenState} {d : Drawn} {t : Nat} {os : OsState} {a : Addr} {vs : List Value} {n : Nat}
theorem gi_get_list {R : Result → Shared → Prop} (hx : h.get? a = some (listObj vs n)) (hq : R (.ok (.ret (.ref h.objs.size))) ⟨h.push { cls := .type "builtin_function_or_method", data := .fields #[.builtin "list.__getitem__", .ref a] }, g, d, t, os⟩) :
    codeAny (model prog w) A (.call (.builtin "method_descriptor.__get__") ⟨[.builtin "list.__getitem__", .ref a, .type "list"], []⟩) R ⟨h, g, d, t, os⟩ := by
  have hT : (⟨h, g, d, t, os⟩ : Shared).TypeIs (.ref a) "list" := ⟨_, hx, rfl⟩
  have hT5 : (⟨h, g, d, t, os⟩ : Shared).TypeIs (.builtin "list.__getitem__") "method_descriptor" := PySem.F.type_list_getitem
  have f8 := HF.sub_list_owner
  refine codeAny_call_builtin HF.slot_md_get.plain HF.entry_md_get (HF.slot_md_get.check _ _ _ _ _ _ _ _ hT5 (HF.args_md_get _ _ _) ?_)
  repeat (any_goals (first | assumption | wp_step))
theorem gi_entry_list {tk : Tok} {Q : Fin → Shared → Prop} (hx : h.get? a = some (listObj vs n)) (hq : Q (.done (.ret (.ref h.objs.size))) ⟨h.push { cls := .type "builtin_function_or_method", data := .fields #[.builtin "list.__getitem__", .ref a] }, g, d, t, os⟩) :
    wpAny (model prog w) A (Builtin.«object.__getattribute__» ⟨[.ref a, .str "__getitem__" tk], []⟩) Q E ⟨h, g, d, t, os⟩ := by
  have hT : (⟨h, g, d, t, os⟩ : Shared).TypeIs (.ref a) "list" := ⟨_, hx, rfl⟩
  have hT5 : (⟨h, g, d, t, os⟩ : Shared).TypeIs (.builtin "list.__getitem__") "method_descriptor" := PySem.F.type_list_getitem
  have f4 : typeLookup (.type "list") "__getitem__" = pure (some (.builtin "list.__getitem__")) := PySem.F.slot_list_getitem.lookup
  have f5 := PySem.F.type_list_getitem
  have f6 := HF.slot_md_get.lookup
  have f7 := HF.noset_md
  have f8 := HF.nodel_md
  repeat (any_goals (first | assumption | wp_step))
  refine gi_get_list hx ?_
  repeat (any_goals (first | assumption | wp_step))
theorem gi_call_list {tk : Tok} {R : Result → Shared → Prop} (hx : h.get? a = some (listObj vs n)) (hq : R (.ok (.ret (.ref h.objs.size))) ⟨h.push { cls := .type "builtin_function_or_method", data := .fields #[.builtin "list.__getitem__", .ref a] }, g, d, t, os⟩) :
    codeAny (model prog w) A (.call (.builtin "list.__getattribute__") ⟨[.ref a, .str "__getitem__" tk], []⟩) R ⟨h, g, d, t, os⟩ :=
  codeAny_call_builtin PySem.F.slot_list_getattribute.plain PySem.F.entry_list_ga (PySem.F.slot_list_getattribute.check _ _ _ _ _ _ _ _ (show (⟨h, g, d, t, os⟩ : Shared).TypeIs (.ref a) "list" from ⟨_, hx, rfl⟩) (PySem.F.args_list_getattribute_2 _ _) (gi_entry_list hx hq))
theorem gi_by_list {tk : Tok} {Q : Value → Shared → Prop} (hx : h.get? a = some (listObj vs n)) (hq : Q (.ref h.objs.size) ⟨h.push { cls := .type "builtin_function_or_method", data := .fields #[.builtin "list.__getitem__", .ref a] }, g, d, t, os⟩) : wpAny (model prog w) A (getAttrBy (.ref a) (.str "__getitem__" tk) false) Q E ⟨h, g, d, t, os⟩ := by
  have hT : (⟨h, g, d, t, os⟩ : Shared).TypeIs (.ref a) "list" := ⟨_, hx, rfl⟩
  have f2 := PySem.F.slot_list_getattribute.lookup
  have f3 := PySem.F.slot_list_getattribute.bind (.ref a)
  repeat (any_goals (first | assumption | wp_step))
  refine gi_call_list hx ?_
  repeat (any_goals (first | assumption | wp_step))
theorem gi_q_list {tk : Tok} {Q : Option Value → Shared → Prop} (hx : h.get? a = some (listObj vs n)) (hq : Q (some (.ref h.objs.size)) ⟨h.push { cls := .type "builtin_function_or_method", data := .fields #[.builtin "list.__getitem__", .ref a] }, g, d, t, os⟩) :
    wpAny (model prog w) A (getAttrBy? (.ref a) (.str "__getitem__" tk)) Q E ⟨h, g, d, t, os⟩ := by
  unfold getAttrBy?
  repeat (any_goals (first | assumption | with_reducible apply gi_by_list hx | wp_step))
theorem sub_list_module : isSubtype (.type "list") (.type "module") = pure false := by rw [isSubtype_type]; kernel_rfl
theorem hasattr_list {tk : Tok} {Q : Fin → Shared → Prop} (hx : h.get? a = some (listObj vs n)) (hq : Q (.done (.ret (.bool true))) ⟨h.push { cls := .type "builtin_function_or_method", data := .fields #[.builtin "list.__getitem__", .ref a] }, g, d, t, os⟩) :
    wpAny (model prog w) A (Builtin.«hasattr» ⟨[.ref a, .str "__getitem__" tk], []⟩) Q E ⟨h, g, d, t, os⟩ := by
  have hT : (⟨h, g, d, t, os⟩ : Shared).TypeIs (.ref a) "list" := ⟨_, hx, rfl⟩
  have f4 : typeLookup (.type "list") "__getitem__" = pure (some (.builtin "list.__getitem__")) := PySem.F.slot_list_getitem.lookup
  have f2 := PySem.F.slot_list_getattribute.lookup
  unfold Builtin.«hasattr»
  refine wpAny_bind (m := someArgs "hasattr" 2 2 _) (wpAny_pure ?_)
  dsimp only
  refine wpAny_bind (wpAny_pure ?_)
  rw [if_neg (fun hh => by cases hh)]
  refine wpAny_bind (wpAny_typeOf hT ?_)
  dsimp only
  refine wpAny_bind (wpAny_pure ?_)
  dsimp only
  refine wpAny_bind (wpAny_of_eq f4 ?_)
  dsimp only
  refine wpAny_bind (wpAny_of_eq f2 ?_)
  have we : (withoutEnding? "list.__getitem__" "#data").isSome = false := by decide +kernel
  rw [we, Bool.false_and, if_neg Bool.false_ne_true]
  refine wpAny_bind ?_
  refine wpAny_bind (wpAny_pure ?_)
  dsimp only
  refine wpAny_bind (wpAny_isInstance (T := "list") (b := false) hT sub_list_module ?_)
  refine wpAny_pure ?_
  rw [if_neg (by decide)]
  refine wpAny_bind (gi_q_list hx ?_)
  rw [if_neg (fun hh => by cases hh)]
  exact wpAny_pure hq
theorem call_hasattr_list {tk : Tok} {Q : Value → Shared → Prop} (hx : h.get? a = some (listObj vs n)) (hq : Q (.bool true) ⟨h.push { cls := .type "builtin_function_or_method", data := .fields #[.builtin "list.__getitem__", .ref a] }, g, d, t, os⟩) :
    wpAny (model prog w) A (call (.builtin "hasattr") [.ref a, .str "__getitem__" tk]) Q E ⟨h, g, d, t, os⟩ := by
  refine Calls.call_function_entry (id := "hasattr") (b := Builtin.«hasattr») (by decide +kernel) (by decide +kernel) (entryFor_of_tree (by kernel_rfl)) (by unfold argsOk; kernel_rfl) ?_
  exact hasattr_list hx ⟨_, rfl, hq⟩
end
theorem hasattr_str_ok {c : Cx} {x : Str} : CallOK c (.builtin "hasattr") [.str x, .str "__getitem__"] (.bool true) := by with_unfolding_all
  intro F s vs P rs Q E hQ
  obtain ⟨v, v', rfl, r, r'⟩ := two_args rs
  obtain ⟨t, rfl⟩ := rv_str r
  obtain ⟨u, rfl⟩ := rv_str r'
  exact call_hasattr_str (hQ.push P { cls := .type "method-wrapper", data := .fields #[.builtin "str.__getitem__", .str x t] } (.imm (.bool _)))
theorem hasattr_list_ok {c : Cx} {l : List IV} : CallOK c (.builtin "hasattr") [.list l, .str "__getitem__"] (.bool true) := by with_unfolding_all
  intro F s vs P rs Q E hQ
  obtain ⟨v, v', rfl, r, r'⟩ := two_args rs
  obtain ⟨a, vs, n, rfl, hf, hp⟩ := rv_list r
  obtain ⟨u, rfl⟩ := rv_str r'
  exact call_hasattr_list (P.sub _ _ hf) (hQ.push P { cls := .type "builtin_function_or_method", data := .fields #[.builtin "list.__getitem__", .ref a] } (.imm (.bool _)))
end Mine
end
section
open PySem PySem.W PySem.Calls PyProof.Rows
namespace Mine
structure CS (cenv : Env) (b : Shared) (F0 : PM) (D : Addr) (done : List IV) (F : PM) (h : Heap) (tk : Nat) : Prop where
  up : Up F0 b F h tk
  C0 : b.heap.get? cenv.locals = none
  D0 : b.heap.get? D = none
  ne : D ≠ cenv.locals
  FC : F.f cenv.locals = none
  FD : F.f D = none
  acc : ∃ vs n, h.get? D = some (listObj vs n) ∧ Paired (IR F.hi) vs done
  ns : ∃ m, h.Ns cenv.locals m
structure Later (W : List Addr) (D C : Addr) (F : PM) (h : Heap) (tk : Nat) (F' : PM) (h' : Heap) (tk' : Nat) : Prop where
  keep : ∀ a o, a ≠ D → a ≠ C → a ∉ W → h.get? a = some o → h'.get? a = some o
  le : LeF F F'
  mono : tk ≤ tk'
  out : ∀ a, (h.get? a).isSome = true → F.f a = none → F'.f a = none
noncomputable def CellsAt (cenv : Env) (F0 : PM) (b : Heap) (ρc : Rho) : Prop := ∀ y p, ρc.lookup y = some p → ∃ v cc, cenv.kindOf y = some .cell ∧ cenv.cells.lookup y = some cc ∧ b.IsCell cc (some v) ∧ RV F0 v p
@[irreducible] noncomputable def TurnOK (c : Cx) (cenv : Env) (act : Value → Sem Unit) (ρ : Rho) (res : List IV) : Prop :=
  ∀ b F0 D done F h tk, Pre c F0 b → CS cenv b F0 D done F h tk → Vars cenv F ρ h → done.length + res.length ≤ 100000 → ∀ (Q : Unit → Shared → Prop) E,
    (∀ F' h' tk', CS cenv b F0 D (done ++ res) F' h' tk' → Later [] D cenv.locals F h tk F' h' tk' → Q () { b with heap := h', toks := tk' }) →
    wpAny (model c.prog c.w) c.A (act (.ref D)) Q E { b with heap := h, toks := tk }
inductive CompRun (c : Cx) (cenv : Env) (act : Value → Sem Unit) (x : Str) (ρc : Rho) : List PV → List IV → Prop
  | nil : CompRun c cenv act x ρc [] []
  | cons {v l r rs} : TurnOK c cenv act ((x, v) :: ρc) r → CompRun c cenv act x ρc l rs → CompRun c cenv act x ρc (v :: l) (r ++ rs)
@[irreducible] noncomputable def LoopRule (c : Cx) (cenv : Env) (e : Expr) (depth : Nat) (x : Str) (act : Value → Sem Unit) : Prop :=
  ∀ (it acc : Value) (R : Result → Shared → Prop) (I : Nat → Shared → Prop),
    (∀ n s, I n s → ∀ E, wpAny (model c.prog c.w) c.A (pyNext it) (fun r s₁ => match r with
      | none => R (.ok .next) s₁
      | some v => ∀ E, wpAny (model c.prog c.w) c.A (storeName cenv x v) (fun _ s₂ => ∀ E, wpAny (model c.prog c.w) c.A (act acc) (fun _ s₃ => ∃ m, m < n ∧ I m s₃) E s₂) E s₁) E s) →
    ∀ n s, I n s → codeAny (model c.prog c.w) c.A (.compLoop e depth it acc cenv) R s
section
variable {c : Cx} {cenv : Env} {b : Shared} {F0 : PM} {D : Addr}
theorem CS.pre {done : List IV} {F : PM} {h : Heap} {tk : Nat} (x : CS cenv b F0 D done F h tk) (P : Pre c F0 b) : Pre c F { b with heap := h, toks := tk } := P.up x.up
theorem Pre.env {F : PM} {s : Shared} (P : Pre c F s) (cenv : Env) : Pre { c with env := cenv } F s := ⟨P.room, P.gb, P.sub, P.hi, P.lo, P.lo0⟩
theorem Pre.envB {F : PM} {s : Shared} {cenv : Env} (P : Pre { c with env := cenv } F s) : Pre c F s := ⟨P.room, P.gb, P.sub, P.hi, P.lo, P.lo0⟩
theorem CS.step {done : List IV} {F F' : PM} {h h' : Heap} {tk tk' : Nat} (x : CS cenv b F0 D done F h tk) (u : Up F { b with heap := h, toks := tk } F' h' tk') : CS cenv b F0 D done F' h' tk' ∧ Later [] D cenv.locals F h tk F' h' tk' := by
  obtain ⟨vs, n, e, p⟩ := x.acc
  obtain ⟨m, hn⟩ := x.ns
  have out : ∀ a, (h.get? a).isSome = true → F.f a = none → F'.f a = none := fun a ha hF => by
    cases e' : F'.f a with
    | none => rfl
    | some o =>
      rcases u.new _ _ e' with z | z
      · rw [hF] at z; cases z
      · have z' : h.get? a = none := z
        rw [z'] at ha; cases ha
  have hC : (h.get? cenv.locals).isSome = true := by obtain ⟨o, _, _, q, _⟩ := hn; rw [q]; rfl
  exact ⟨⟨x.up.trans u, x.C0, x.D0, x.ne, out _ hC x.FC, out _ (by rw [e]; rfl) x.FD, ⟨vs, n, u.keep _ _ e, Paired.imp (fun _ _ r => r.mono u.le.hi) p⟩, m, hn.keeps u.keep⟩,
    fun a o _ _ _ q => u.keep _ _ q, u.le, u.mono, out⟩
theorem Later.trans {W : List Addr} {C : Addr} {F F' F'' : PM} {h h' h'' : Heap} {tk tk' tk'' : Nat} (x : Later W D C F h tk F' h' tk') (y : Later W D C F' h' tk' F'' h'' tk'') (al : ∀ a, (h.get? a).isSome = true → (h'.get? a).isSome = true) : Later W D C F h tk F'' h'' tk'' :=
  ⟨fun a o h1 h2 h3 e => y.keep a o h1 h2 h3 (x.keep a o h1 h2 h3 e), x.le.trans y.le, Nat.le_trans x.mono y.mono, fun a ha hF => y.out a (al a ha) (x.out a ha hF)⟩
theorem CS.append {done : List IV} {F : PM} {h : Heap} {tk : Nat} {v : Value} {r : IV} {Q : Value → Shared → Prop} {E : Value → Shared → Prop} (x : CS cenv b F0 D done F h tk) (rv : IR F.hi v r) (hl : done.length ≤ 100000)
    (hQ : ∀ h', CS cenv b F0 D (done ++ [r]) F h' tk → Later [] D cenv.locals F h tk F h' tk → Q .none { b with heap := h', toks := tk }) :
    wpAny (model c.prog c.w) c.A (call (.builtin "list.append") [.ref D, v]) Q E { b with heap := h, toks := tk } := by
  obtain ⟨vs, n, e, p⟩ := x.acc
  obtain ⟨m, hn⟩ := x.ns
  refine append_at e (fun h' hs hD => ?_) (by rw [List.size_toArray, p.length]; exact Nat.le_trans hl (by decide))
  refine hQ h' ⟨⟨x.up.le, fun a o q => (hs.2 a (fun z => by rw [z, x.FD] at q; cases q)).trans (x.up.sub a o q), fun a o q => (hs.2 a (fun z => by rw [z, x.D0] at q; cases q)).trans (x.up.keep a o q), x.up.new, x.up.hi, x.up.mono⟩,
    x.C0, x.D0, x.ne, x.FC, x.FD, ⟨vs ++ [v], n + 1, ?_, paired_append p (.cons rv .nil)⟩, m, hn.sameBut hs x.ne.symm⟩ ⟨fun a o h1 _ _ q => (hs.2 a h1).trans q, LeF.refl _, Nat.le_refl _, fun _ _ q => q⟩
  rw [hD]
  show some ({ cls := .type "list", data := .seq (vs.toArray.push v) (n + 1) } : Obj) = _
  rw [List.push_toArray]
theorem turn_elt {elt : Expr} {ρ : Rho} {r : IV} (he : EV { c with env := cenv } ρ elt (.imm r)) : TurnOK c cenv (fun acc => eval elt cenv >>= fun x => call (.builtin "list.append") [acc, x] >>= fun _ => pure ()) ρ [r] := by with_unfolding_all
  intro b F0 D done F h tk P x V hl Q E hQ
  refine wpAny_bind (he F _ ((x.pre P).env cenv) V _ _ fun v F₁ h₁ tk₁ u₁ rv => ?_)
  obtain ⟨x₁, l₁⟩ := x.step u₁
  cases rv with
  | imm rv =>
    refine wpAny_bind (x₁.append rv (by simp at hl; omega) fun h₂ x₂ l₂ => wpAny_pure ?_)
    exact hQ _ _ _ x₂ (l₁.trans l₂ fun a ha => by obtain ⟨o, e⟩ := Option.isSome_iff_exists.mp ha; rw [u₁.keep a o e]; rfl)
theorem turn_if {elt t : Expr} {ρ : Rho} {q : Bool} {res : List IV} (ht : EB { c with env := cenv } ρ t q) (hr : q = false → res = []) (he : q = true → ∃ r, res = [r] ∧ EV { c with env := cenv } ρ elt (.imm r)) :
    TurnOK c cenv (fun acc => isTrue t cenv (eval t cenv) >>= fun ok => if ok = true then eval elt cenv >>= fun x => call (.builtin "list.append") [acc, x] >>= fun _ => pure () else pure ()) ρ res := by with_unfolding_all
  intro b F0 D done F h tk P x V hl Q E hQ
  refine wpAny_bind (ht F _ ((x.pre P).env cenv) V _ _ fun F₁ h₁ tk₁ u₁ => ?_)
  obtain ⟨x₁, l₁⟩ := x.step u₁
  have al : ∀ a, (h.get? a).isSome = true → (h₁.get? a).isSome = true := fun a ha => by obtain ⟨o, e⟩ := Option.isSome_iff_exists.mp ha; rw [u₁.keep a o e]; rfl
  cases q with
  | false =>
    obtain rfl := hr rfl
    exact wpAny_pure (hQ _ _ _ (by simpa using x₁) l₁)
  | true =>
    obtain ⟨r, rfl, he'⟩ := he rfl
    exact turn_elt (c := c) (cenv := cenv) he' b F0 D done F₁ h₁ tk₁ P x₁ (V.up u₁) hl Q E fun F' h' tk' x' l' => hQ F' h' tk' x' (l₁.trans l' al)
theorem comp_loop {e : Expr} {depth : Nat} {x : Str} {act : Value → Sem Unit} {ρc : Rho} {items : List PV} {res done : List IV} {F : PM} {h : Heap} {tk : Nat} {I : Addr} {fp wr : List Addr} {P : Nat → Value → Prop} {St : Nat → Heap → Prop} {R : Result → Shared → Prop}
    (hrule : LoopRule c cenv e depth x act) (hk : EnvOK cenv) (hx : cenv.kindOf x = some .local) (hxc : ρc.lookup x = none) (hrun : CompRun c cenv act x ρc items res) (hlen : done.length + res.length ≤ 100000)
    (Pb : Pre c F0 b) (hc : CellsAt cenv F0 b.heap ρc) (X : CS cenv b F0 D done F h tk)
    (W : WL c.prog c.w c.A c.lo I fp wr items.length P St) (hst : St 0 h) (hwr : ∀ a ∈ wr, F.f a = none ∧ a ≠ D ∧ a ≠ cenv.locals ∧ b.heap.get? a = none) (hfp : ∀ a ∈ fp, (h.get? a).isSome = true ∧ a ≠ D ∧ a ≠ cenv.locals)
    (hit : ∀ i v, P i v → ∃ q, items[i]? = some q ∧ RV F v q) (hex : ∀ i h, St i h → ∀ a ∈ wr, (h.get? a).isSome = true)
    (hR : ∀ F' h' tk', CS cenv b F0 D (done ++ res) F' h' tk' → Later wr D cenv.locals F h tk F' h' tk' → R (.ok .next) { b with heap := h', toks := tk' }) :
    codeAny (model c.prog c.w) c.A (.compLoop e depth (.ref I) (.ref D) cenv) R { b with heap := h, toks := tk } := by with_unfolding_all
  refine hrule _ _ _ (fun n s' => ∃ h' tk' F' i done' res', s' = { b with heap := h', toks := tk' } ∧ CS cenv b F0 D done' F' h' tk' ∧ Later wr D cenv.locals F h tk F' h' tk' ∧ (∀ a, (h.get? a).isSome = true → (h'.get? a).isSome = true) ∧ St i h' ∧ CompRun c cenv act x ρc (items.drop i) res' ∧ done' ++ res' = done ++ res ∧
    i ≤ items.length ∧ n = items.length + 1 - i) ?_ (items.length + 1) _
    ⟨h, tk, F, 0, done, res, rfl, X, ⟨fun _ _ _ _ _ e => e, LeF.refl _, Nat.le_refl _, fun _ _ e => e⟩, fun _ e => e, hst, by simpa using hrun, rfl, Nat.zero_le _, rfl⟩
  rintro n s' ⟨h', tk', F', i, done', res', rfl, X', L', al', hst', hrun', hres, hi, rfl⟩ E
  have fpAlive : ∀ a ∈ fp, (h'.get? a).isSome = true := fun a ha => al' a (hfp a ha).1
  by_cases hlt : i < items.length
  · refine wpAny_with_toks (Nat.le_refl _) (W.item i _ hlt hst' (Nat.le_trans Pb.lo X'.up.mono) _ _ fun v h₂ tk₂ hPv hst₂ hk₂ (ht₂ : tk' ≤ tk₂) => ?_)
    obtain ⟨q, hq, hrq⟩ := hit i v hPv
    have hd : items.drop i = q :: items.drop (i + 1) := by
      rw [List.drop_eq_getElem_cons hlt]
      rw [List.getElem?_eq_getElem hlt] at hq
      rw [Option.some.inj hq]
    rw [hd] at hrun'
    intro E
    obtain ⟨m, hn⟩ := X'.ns
    obtain ⟨vs, na, eD, pD⟩ := X'.acc
    have Cw : cenv.locals ∉ wr := fun z => (hwr _ z).2.2.1 rfl
    have Dw : D ∉ wr := fun z => (hwr _ z).2.1 rfl
    have hn₂ : h₂.Ns cenv.locals m := hn.at' fun o e => hk₂ _ o Cw e
    refine wpAny_storeName_local hx hn₂ (fun h₃ hn₃ hs₃ => ?_) (by rw [hk.kind]; rfl)
    have wrF : ∀ a ∈ wr, F'.f a = none := fun a ha => L'.out a (hfp a (W.base.sub a ha)).1 (hwr a ha).1
    have keep₃ : ∀ a o, a ≠ cenv.locals → a ∉ wr → h'.get? a = some o → h₃.get? a = some o := fun a o h1 h2 e => (hs₃.2 a h1).trans (hk₂ a o h2 e)
    have al₃ : ∀ a, (h'.get? a).isSome = true → (h₃.get? a).isSome = true := fun a ha => by
      by_cases z1 : a = cenv.locals
      · subst z1; obtain ⟨o, _, _, q, _⟩ := hn₃; rw [q]; rfl
      · by_cases z2 : a ∈ wr
        · rw [show h₃.get? a = h₂.get? a from hs₃.2 a z1]; exact hex _ _ hst₂ a z2
        · obtain ⟨o, e⟩ := Option.isSome_iff_exists.mp ha
          rw [keep₃ a o z1 z2 e]; rfl
    have X₃ : CS cenv b F0 D done' F' h₃ (tk₂ + 1) := by
      refine ⟨⟨X'.up.le, fun a o e => keep₃ a o (fun z => by rw [z, X'.FC] at e; cases e) (fun z => by rw [wrF a z] at e; cases e) (X'.up.sub a o e), fun a o e => keep₃ a o (fun z => by rw [z, X'.C0] at e; cases e) (fun z => by rw [(hwr a z).2.2.2] at e; cases e) (X'.up.keep a o e),
        X'.up.new, Nat.le_trans X'.up.hi (Nat.le_succ_of_le ht₂), Nat.le_trans X'.up.mono (Nat.le_succ_of_le ht₂)⟩, X'.C0, X'.D0, X'.ne, X'.FC, X'.FD, ⟨vs, na, keep₃ D _ X'.ne Dw eD, pD⟩, _, hn₃⟩
    have V₃ : Vars cenv F' ((x, q) :: ρc) h₃ := by
      refine ⟨_, hn₃, fun y p e => ?_⟩
      by_cases z : y = x
      · subst z
        simp only [List.lookup_cons, beq_self_eq_true] at e
        cases e
        exact ⟨v, .inl ⟨hx, by simp⟩, hrq.mono L'.le⟩
      · have z' : (y == x) = false := beq_eq_false_iff_ne.mpr z
        simp only [List.lookup_cons, z'] at e
        obtain ⟨v', cc, k1, k2, k3, k4⟩ := hc y p e
        exact ⟨v', .inr ⟨k1, cc, k2, isCell_keeps k3 X₃.up.keep⟩, k4.mono X₃.up.le⟩
    intro E
    obtain ⟨r, rs, hdr, ht, hrest⟩ : ∃ r rs, res' = r ++ rs ∧ TurnOK c cenv act ((x, q) :: ρc) r ∧ CompRun c cenv act x ρc (items.drop (i + 1)) rs := by
      cases hrun' with
      | cons a t => exact ⟨_, _, rfl, a, t⟩
    subst hdr
    have hl' : done'.length + r.length ≤ 100000 := by
      have := congrArg List.length hres
      simp at this; omega
    refine ht b F0 D done' F' h₃ (tk₂ + 1) Pb X₃ V₃ hl' _ _ fun F₄ h₄ tk₄ X₄ L₄ => ?_
    have al₄ : ∀ a, (h₃.get? a).isSome = true → (h₄.get? a).isSome = true := fun a ha => by
      by_cases z1 : a = cenv.locals
      · subst z1; obtain ⟨_, o, _, _, q, _⟩ := X₄.ns; rw [q]; rfl
      · by_cases z2 : a = D
        · subst z2; obtain ⟨_, _, q, _⟩ := X₄.acc; rw [q]; rfl
        · obtain ⟨o, e⟩ := Option.isSome_iff_exists.mp ha
          rw [L₄.keep a o z2 z1 (by simp) e]; rfl
    refine ⟨items.length + 1 - (i + 1), by omega, h₄, tk₄, F₄, i + 1, done' ++ r, rs, rfl, X₄, ?_, fun a ha => al₄ a (al₃ a (al' a ha)), ?_, hrest, by rw [List.append_assoc]; exact hres, hlt, rfl⟩
    · exact ⟨fun a o h1 h2 h3 e => L₄.keep a o h1 h2 (by simp) (keep₃ a o h2 h3 (L'.keep a o h1 h2 h3 e)), L'.le.trans L₄.le, Nat.le_trans L'.mono (Nat.le_trans (Nat.le_succ_of_le ht₂) L₄.mono),
        fun a ha hF => L₄.out a (al₃ a (al' a ha)) (L'.out a ha hF)⟩
    · refine W.base.frame _ _ _ hst₂ fun a ha o e => ?_
      exact L₄.keep a o (hfp a ha).2.1 (hfp a ha).2.2 (by simp) ((hs₃.2 a (hfp a ha).2.2).trans e)
  · have hii : i = items.length := by omega
    subst hii
    refine wpAny_with_toks (Nat.le_refl _) (W.base.done _ _ _ hst' fun h₃ tk₃ hk₃ (ht₃ : tk' ≤ tk₃) => ?_)
    rw [List.drop_length] at hrun'
    have hr0 : res' = [] := by cases hrun'; rfl
    subst hr0
    rw [List.append_nil] at hres
    subst hres
    obtain ⟨m, hn⟩ := X'.ns
    obtain ⟨vs, na, eD, pD⟩ := X'.acc
    have Cw : cenv.locals ∉ wr := fun z => (hwr _ z).2.2.1 rfl
    have Dw : D ∉ wr := fun z => (hwr _ z).2.1 rfl
    have wrF : ∀ a ∈ wr, F'.f a = none := fun a ha => L'.out a (hfp a (W.base.sub a ha)).1 (hwr a ha).1
    refine hR F' h₃ tk₃ ⟨⟨X'.up.le, fun a o e => hk₃ a o (fun z => by rw [wrF a z] at e; cases e) (X'.up.sub a o e), fun a o e => hk₃ a o (fun z => by rw [(hwr a z).2.2.2] at e; cases e) (X'.up.keep a o e), X'.up.new, Nat.le_trans X'.up.hi ht₃, Nat.le_trans X'.up.mono ht₃⟩,
      X'.C0, X'.D0, X'.ne, X'.FC, X'.FD, ⟨vs, na, hk₃ D _ Dw eD, pD⟩, m, hn.at' fun o e => hk₃ _ o Cw e⟩
      ⟨fun a o h1 h2 h3 e => hk₃ a o h3 (L'.keep a o h1 h2 h3 e), L'.le, Nat.le_trans L'.mono ht₃, L'.out⟩
end
end Mine
end
section
open PySem PySem.W PySem.Calls PyProof.Rows
namespace Mine
noncomputable def actElt (elt : Expr) (cenv : Env) (acc : Value) : Sem Unit := eval elt cenv >>= fun x => call (.builtin "list.append") [acc, x] >>= fun _ => pure ()
noncomputable def actIf (t elt : Expr) (cenv : Env) (acc : Value) : Sem Unit := isTrue t cenv (eval t cenv) >>= fun ok => if ok = true then actElt elt cenv acc else pure ()
noncomputable def actIn (e : Expr) (iter : Expr) (cenv : Env) (acc : Value) : Sem Unit :=
  eval iter cenv >>= fun x => standAt iter.pos >>= fun _ => foldedSetIterable iter cenv x >>= fun x => holding [x] (pyIter x) >>= fun it => runOwn (.compStart e 1 it acc cenv) cenv >>= fun _ => pure ()
section
variable {c : Cx} {cenv : Env}
theorem rule_of {elt : Expr} {gens : List Comprehension} {scope : Scope} {cpos : Pos} {depth : Nat} {x : Str} {px pos : Pos} {act : Value → Sem Unit}
    (heq : ∀ it acc, compTurn (.ListComp elt gens scope cpos) depth it acc cenv = (standAt pos >>= fun _ => pyNext it >>= fun r => match r with
      | none => pure (.done .next)
      | some v => letOwnedTupleGo (.Name x px) it v >>= fun _ => assign (.Name x px) cenv v >>= fun _ => act acc >>= fun _ => again (.compLoop (.ListComp elt gens scope cpos) depth it acc cenv))) : LoopRule c cenv (.ListComp elt gens scope cpos) depth x act := by with_unfolding_all
  intro it acc R I turn n s hI
  refine codeAny_loop rfl I (fun n s hI => ?_) n hI
  show wpAny _ _ ((compTurn (.ListComp elt gens scope cpos) depth it acc cenv).onRaise (fun x => do noteFrame x cenv; theTreesLotGoes x)) _ _ s
  refine wpAny_noted ?_
  rw [heq]
  refine wpAny_bind (wpAny_standAt (wpAny_bind (wpAny_mono (turn n s hI _) (fun r s₁ h₁ => ?_) fun _ _ h' => h')))
  cases r with
  | none => exact wpAny_pure h₁
  | some v =>
    refine wpAny_bind (wpAny_of_eq (show letOwnedTupleGo (.Name x px) it v = pure () from rfl) ?_)
    exact wpAny_bind (wpAny_assign_Name (wpAny_mono (h₁ _) (fun _ s₂ h₂ => wpAny_bind (wpAny_mono (h₂ _) (fun _ s₃ h₃ => wpAny_pure ⟨rfl, h₃⟩) fun _ _ e => e)) fun _ _ e => e))
theorem rule_elt {elt iter : Expr} {x : Str} {px : Pos} {scope : Scope} {pos : Pos} : LoopRule c cenv (.ListComp elt [⟨.Name x px, iter, [], 0⟩] scope pos) 0 x (actElt elt cenv) :=
  rule_of (px := px) fun it acc => compTurn_list1 elt (.Name x px) iter scope pos it acc cenv
theorem rule_inner {elt iter0 iter : Expr} {x x0 : Str} {px px0 : Pos} {scope : Scope} {pos : Pos} : LoopRule c cenv (.ListComp elt [⟨.Name x0 px0, iter0, [], 0⟩, ⟨.Name x px, iter, [], 0⟩] scope pos) 1 x (actElt elt cenv) :=
  rule_of (px := px) (pos := iter.pos) fun it acc => by rfl
theorem rule_if {elt iter t : Expr} {x : Str} {px : Pos} {scope : Scope} {pos : Pos} : LoopRule c cenv (.ListComp elt [⟨.Name x px, iter, [t], 0⟩] scope pos) 0 x (actIf t elt cenv) :=
  rule_of (px := px) (pos := iter.pos) fun it acc => by
    rw [compTurn_list]
    refine congrArg (standAt iter.pos >>= ·) ?_
    funext _
    refine congrArg (pyNext it >>= ·) ?_
    funext r
    cases r with
    | none => rfl
    | some v =>
      refine congrArg (letOwnedTupleGo _ it v >>= ·) ?_
      funext _
      refine congrArg (assign _ cenv v >>= ·) ?_
      funext _
      show (forIn [t] true fun c r => if r = true then do let ok ← isTrue c cenv (eval c cenv); pure (ForInStep.yield ok) else pure (ForInStep.yield r)) >>= _ = _
      simp only [List.forIn_cons, List.forIn_nil, if_true, actIf, actElt, bind_assoc, pure_bind]
      refine congrArg (isTrue t cenv (eval t cenv) >>= ·) ?_
      funext ok
      cases ok <;> simp
theorem rule_outer {elt iter0 iter : Expr} {x x0 : Str} {px px0 : Pos} {scope : Scope} {pos : Pos} : LoopRule c cenv (.ListComp elt [⟨.Name x0 px0, iter0, [], 0⟩, ⟨.Name x px, iter, [], 0⟩] scope pos) 0 x0 (actIn (.ListComp elt [⟨.Name x0 px0, iter0, [], 0⟩, ⟨.Name x px, iter, [], 0⟩] scope pos) iter cenv) :=
  rule_of (px := px0) (pos := iter0.pos) fun it acc => by
    unfold compTurn
    refine congrArg (standAt iter0.pos >>= ·) ?_
    funext _
    refine congrArg (pyNext it >>= ·) ?_
    funext r
    cases r with
    | none => rfl
    | some v =>
      refine congrArg (letOwnedTupleGo _ it v >>= ·) ?_
      funext _
      refine congrArg (assign _ cenv v >>= ·) ?_
      funext _
      simp only [actIn, List.forIn_nil, pure_bind, bind_assoc, if_true]
      rfl
theorem start0 {elt target iter ifs rest scope pos it acc env} {R : Result → Shared → Prop} {s : Shared}
    (h0 : codeAny (model c.prog c.w) c.A (.compLoop (.ListComp elt (⟨target, iter, ifs, 0⟩ :: rest) scope pos) 0 it acc env) R s)
    (h1 : ∀ E, wpAny (model c.prog c.w) c.A (pyIter it) (fun it' s' => it' = it ∧ s' = s) E s) :
    codeAny (model c.prog c.w) c.A (.compStart (.ListComp elt (⟨target, iter, ifs, 0⟩ :: rest) scope pos) 0 it acc env) R s :=
  codeAny_compStart_list h0 (wpAny_mono (h1 _) (fun _ _ ⟨a, b⟩ => by subst a; subst b; exact h0) fun _ _ e => e)
theorem either_way {prog : Program} {w : World} {A : Around} {α : Type} {yes no : Sem α} {Q : α → Shared → Prop} {E : Value → Shared → Prop} {s : Shared} (b : Setting → Bool)
    (h1 : wpAny (model prog w) A yes Q E s) (h2 : wpAny (model prog w) A no Q E s) : wpAny (model prog w) A (ask >>= fun x => if b x = true then yes else no) Q E s := by
  refine wpAny_bind (wpAny_askSetting ?_)
  cases b ⟨(model prog w).prog, (model prog w).w.params⟩
  · exact h2
  · exact h1
theorem start1 {elt target iter ifs g rest scope pos it acc env} {R : Result → Shared → Prop} {s : Shared}
    (h0 : codeAny (model c.prog c.w) c.A (.compLoop (.ListComp elt (g :: ⟨target, iter, ifs, 0⟩ :: rest) scope pos) 1 it acc env) R s)
    (h1 : ∀ E, wpAny (model c.prog c.w) c.A (pyIter it) (fun it' s' => it' = it ∧ s' = s) E s) :
    codeAny (model c.prog c.w) c.A (.compStart (.ListComp elt (g :: ⟨target, iter, ifs, 0⟩ :: rest) scope pos) 1 it acc env) R s :=
  codeAny_of_tree (wpAny_notedAt (m := compStart (.ListComp elt (g :: ⟨target, iter, ifs, 0⟩ :: rest) scope pos) 1 it acc env) (pos := theWindowsPlace)
    (either_way (fun x => x.params.followText "comprehension-iter-twice") (wpAny_pure ⟨rfl, h0⟩)
      (wpAny_bind (wpAny_rule (wpAny_bind (wpAny_standAt (wpAny_bind (wpAny_mono (h1 _) (fun _ _ ⟨a, b⟩ => by subst a; subst b; exact wpAny_pure ⟨rfl, h0⟩) fun _ _ e => e))))))))
theorem walks_self {prog : Program} {w : World} {A : Around} {lo : Nat} {I : Addr} {fp wr : List Addr} {n : Nat} {P : Nat → Value → Prop} {St : Nat → Heap → Prop} (W : WL prog w A lo I fp wr n P St) {i : Nat} {s : Shared} (h : St i s.heap) (E : Value → Shared → Prop) :
    wpAny (model prog w) A (pyIter (.ref I)) (fun it' s' => it' = .ref I ∧ s' = s) E s := W.base.self i s _ E h ⟨rfl, rfl⟩
theorem turn_in {elt iter0 iter : Expr} {x x0 : Str} {px px0 : Pos} {scope : Scope} {pos : Pos} {ρ ρc : Rho} {p : PV} {items : List PV} {res : List IV}
    (hi : EV { c with env := cenv } ρ iter p) (hit : IterOK { c with env := cenv } p items) (hk : EnvOK cenv) (hx : cenv.kindOf x = some .local) (hxc : ρc.lookup x = none)
    (hrun : CompRun c cenv (actElt elt cenv) x ρc items res) (hcell : ∀ b F0, (∀ y p, ρc.lookup y = some p → False) ∨ CellsAt cenv F0 b ρc) (hρ : ρc = [])
    (hs : ∀ y, foldedSetIterable iter cenv y = pure y) :
    TurnOK c cenv (actIn (.ListComp elt [⟨.Name x0 px0, iter0, [], 0⟩, ⟨.Name x px, iter, [], 0⟩] scope pos) iter cenv) ρ res := by with_unfolding_all
  intro b F0 D done F h tk P X V hl Q E hQ
  refine wpAny_bind (hi F _ ((X.pre P).env cenv) V _ _ fun v F₁ h₁ tk₁ u₁ rv => wpAny_bind (wpAny_standAt (wpAny_bind (wpAny_of_eq (hs v) (wpAny_bind (wpAny_holding ?_))))))
  obtain ⟨X₁, L₁⟩ := X.step u₁
  have al₁ : ∀ a, (h.get? a).isSome = true → (h₁.get? a).isSome = true := fun a ha => by obtain ⟨o, e⟩ := Option.isSome_iff_exists.mp ha; rw [u₁.keep a o e]; rfl
  refine hit F₁ _ v ((X₁.pre P).env cenv) rv _ _ fun It fp wr Pi St h₂ tk₂ k₂ t₂ W st0 hwr hfp hP hex => ?_
  have u₂ : Up F₁ { b with heap := h₁, toks := tk₁ } F₁ h₂ tk₂ := Up.kept X₁.up.sub k₂ X₁.up.hi t₂
  obtain ⟨X₂, L₂⟩ := X₁.step u₂
  obtain ⟨vsD, nD, eD, _⟩ := X₁.acc
  obtain ⟨mC, oC, _, _, eC, _⟩ := X₁.ns
  refine wpAny_bind (wpAny_runOwn ?_)
  have loop : codeAny (model c.prog c.w) c.A (.compLoop (.ListComp elt [⟨.Name x0 px0, iter0, [], 0⟩, ⟨.Name x px, iter, [], 0⟩] scope pos) 1 (.ref It) (.ref D) cenv)
      (fun r s' => match r with | .ok f => wpAny (model c.prog c.w) c.A (pure () : Sem Unit) Q E s' | .error e => cameBackBy (model c.prog c.w) c.A cenv E e s') { b with heap := h₂, toks := tk₂ } := by
    refine comp_loop (x := x) (F := F₁) (F0 := F0) (b := b) (D := D) rule_inner hk hx hxc hrun hl P (by subst hρ; intro y p e; cases e) X₂ W st0 (fun a ha => ?_) (fun a ha => ?_) hP hex fun F₃ h₃ tk₃ X₃ L₃ => ?_
    · have n1 : h₁.get? a = none := hwr a ha
      refine ⟨?_, fun z => (by rw [z, eD] at n1; cases n1), fun z => (by rw [z, eC] at n1; cases n1), ?_⟩
      · cases e : F₁.f a with
        | none => rfl
        | some o => rw [X₁.up.sub a o e] at n1; cases n1
      · cases e : b.heap.get? a with
        | none => rfl
        | some o => rw [X₁.up.keep a o e] at n1; cases n1
    · obtain ⟨z1, z2⟩ := hfp a ha
      refine ⟨z2, fun z => ?_, fun z => ?_⟩
      · rcases z1 with z1 | ⟨o, z1⟩
        · have n1 : h₁.get? a = none := hwr a z1
          rw [z, eD] at n1; cases n1
        · rw [z, X₁.FD] at z1; cases z1
      · rcases z1 with z1 | ⟨o, z1⟩
        · have n1 : h₁.get? a = none := hwr a z1
          rw [z, eC] at n1; cases n1
        · rw [z, X₁.FC] at z1; cases z1
    · refine wpAny_pure (hQ F₃ h₃ tk₃ X₃ ⟨fun a o q1 q2 _ e => ?_, u₁.le.trans L₃.le, Nat.le_trans u₁.mono (Nat.le_trans t₂ L₃.mono), fun a ha hF => ?_⟩)
      · have e1 : h₁.get? a = some o := u₁.keep a o e
        exact L₃.keep a o q1 q2 (fun z => by have n1 : h₁.get? a = none := hwr a z; rw [e1] at n1; cases n1) (k₂ a o e1)
      · have a1 := al₁ a ha
        refine L₃.out a ?_ (L₁.out a ha hF)
        obtain ⟨o, e⟩ := Option.isSome_iff_exists.mp a1
        rw [k₂ a o e]; rfl
  exact start1 loop fun E => walks_self W st0 E
noncomputable def CellsOK (env cenv : Env) (cl : List (Str × Addr)) : Rho → Prop
  | [] => True
  | (y, _) :: r => (env.kindOf y = some .cell ∧ cenv.kindOf y = some .cell ∧ cl.lookup y = env.cells.lookup y) ∧ CellsOK env cenv cl r
theorem CellsOK.get {env cenv : Env} {cl : List (Str × Addr)} : ∀ {ρc : Rho}, CellsOK env cenv cl ρc → ∀ y p, ρc.lookup y = some p → env.kindOf y = some .cell ∧ cenv.kindOf y = some .cell ∧ cl.lookup y = env.cells.lookup y
  | [], _, y, p, e => by simp at e
  | (z, q) :: r, h, y, p, e => by
    by_cases w : y = z
    · subst w; exact h.1
    · have w' : (y == z) = false := beq_eq_false_iff_ne.mpr w
      simp only [List.lookup_cons, w'] at e
      exact CellsOK.get h.2 y p e
theorem comp_core {e : Expr} {elt iter : Expr} {x : Str} {px : Pos} {ifs : List Expr} {rest : List Comprehension} {scope : Scope} {pos : Pos} {cl : List (Str × Addr)} {ρ ρc : Rho} {p : PV} {items : List PV} {res : List IV} {act : Env → Value → Sem Unit}
    (he : e = .ListComp elt (⟨.Name x px, iter, ifs, 0⟩ :: rest) scope pos)
    (hi : EV c ρ iter p) (hit : IterOK c p items) (hk : EnvOK c.env) (hrun : ∀ C, CompRun c (compEnvC scope cl C c.env) (act (compEnvC scope cl C c.env)) x ρc items res)
    (hrule : ∀ C, LoopRule c (compEnvC scope cl C c.env) e 0 x (act (compEnvC scope cl C c.env))) (hlen : res.length ≤ 100000)
    (hcell : ∀ y ∈ scope.names, y.2 ≠ .cell) (hkind : scope.kind = .function) (hx : scope.names.lookup x = some .local) (hxc : ρc.lookup x = none) (hsub : SubR ρc ρ) (hcl : ∀ C, CellsOK c.env (compEnvC scope cl C c.env) cl ρc)
    {F : PM} {s : Shared} (P : Pre c F s) (V : Vars c.env F ρ s.heap) {RR : Value → Addr → Result → Shared → Prop} {E : Value → Shared → Prop}
    (hR : ∀ D C F' h' tk vs n m, Up F s F' h' tk → h'.get? D = some (listObj vs n) → Paired (IR F'.hi) vs res → F'.f D = none → F'.f C = none → s.heap.get? C = none → s.heap.get? D = none → D ≠ C → h'.Ns C m → RR (.ref D) C (.ok .next) { s with heap := h', toks := tk }) :
    wpAny (model c.prog c.w) c.A (eval iter c.env) (fun xv s₁ => wpAny (model c.prog c.w) c.A (pyIter xv) (fun it s₂ => wpAny (model c.prog c.w) c.A (newList []) (fun acc s₃ =>
      wpAny (model c.prog c.w) c.A (newFunctionEnv scope c.env.globals cl [] c.env.qual none .none (some c.env)) (fun cenv s₄ =>
        codeAny (model c.prog c.w) c.A (.compStart e 0 it acc { cenv with scope := relabel scope c.env }) (RR acc cenv.locals) s₄) E s₃) E s₂) E s₁) E s := by with_unfolding_all
  refine hi F s P V _ _ fun v F₁ h₁ tk₁ u₁ rv => ?_
  refine hit F₁ _ v (P.up u₁) rv _ _ fun It fp wr Pi St h₂ tk₂ k₂ t₂ W st0 hwr hfp hP hex => ?_
  refine wpAny_newObj_type (wpAny_newFunctionEnv hcell (by intro y hy; simp at hy) (fun h₄ hns₄ hsb₄ => ?_) hkind)
  dsimp only at hns₄ hsb₄ ⊢
  generalize hH3 : h₂.push { cls := .type "list", dict := none, data := .seq ([] : List Value).toArray } = H3 at hns₄ hsb₄ ⊢
  have hC : H3.objs.size = h₂.objs.size + 1 := by rw [← hH3, Heap.size_push]
  have hDC : h₂.objs.size ≠ H3.objs.size := by rw [hC]; exact Nat.ne_of_lt (Nat.lt_succ_self _)
  have fresh : ∀ a, h₂.objs.size ≤ a → h₂.get? a = none := fun a ha => by
    cases e : h₂.get? a with
    | none => rfl
    | some o' => exact absurd (Heap.lt_size e) (Nat.not_lt.mpr ha)
  have freshS : ∀ a, h₂.get? a = none → s.heap.get? a = none := fun a ha => by
    cases e : s.heap.get? a with
    | none => rfl
    | some o => rw [k₂ a o (u₁.keep a o e)] at ha; cases ha
  have freshF : ∀ a, h₂.get? a = none → F₁.f a = none := fun a ha => by
    cases e : F₁.f a with
    | none => rfl
    | some o => rw [k₂ a o (u₁.sub a o e)] at ha; cases ha
  have fD := fresh h₂.objs.size (Nat.le_refl _)
  have fC := fresh H3.objs.size (by rw [hC]; exact Nat.le_succ _)
  have old : ∀ b o, h₂.get? b = some o → h₄.get? b = some o := fun b o e => hsb₄.extBut b o (fun z => by rw [z, fC] at e; cases e) (Heap.get?_push_of_some _ (hH3 ▸ Heap.get?_push_of_some _ e))
  have hacc : h₄.get? h₂.objs.size = some (listObj [] 0) := hsb₄.extBut _ _ hDC (Heap.get?_push_of_some _ (hH3 ▸ Heap.get?_push_size _ rfl))
  have X : CS (compEnvC scope cl H3.objs.size c.env) s F h₂.objs.size [] F₁ h₄ (tk₂ + 0) := by
    refine ⟨⟨u₁.le, fun a o e => old a o (k₂ a o (u₁.sub a o e)), fun a o e => old a o (k₂ a o (u₁.keep a o e)), u₁.new, Nat.le_trans u₁.hi t₂, Nat.le_trans u₁.mono t₂⟩, freshS _ fC, freshS _ fD, hDC, freshF _ fC, freshF _ fD, ⟨[], 0, hacc, .nil⟩, _, hns₄⟩
  have hst₄ : St 0 h₄ := W.base.frame _ _ _ st0 fun b hb o e => old b o e
  have loop : codeAny (model c.prog c.w) c.A (.compLoop e 0 (.ref It) (.ref h₂.objs.size) (compEnvC scope cl H3.objs.size c.env)) (RR (.ref h₂.objs.size) H3.objs.size) { s with heap := h₄, toks := tk₂ + 0 } := by
    have hknd : (compEnvC scope cl H3.objs.size c.env).kindOf x = some .local := lookup_relabel_local hx
    refine comp_loop (hrule _) ⟨hkind, hk.globals, hk.builtins⟩ hknd hxc (hrun _) (by simpa using hlen) P (fun y p e => ?_) X W hst₄ (fun a ha => ?_) (fun a ha => ?_) hP hex fun F₅ h₅ tk₅ X₅ L₅ => ?_
    · obtain ⟨z1, z2, z3⟩ := (hcl H3.objs.size).get y p e
      obtain ⟨m, hn, hv⟩ := V
      obtain ⟨v', kv, r⟩ := hv y p (hsub y p e)
      rcases kv with ⟨k1, _⟩ | ⟨_, cc, k2, k3⟩
      · rw [z1] at k1; cases k1
      · exact ⟨v', cc, z2, z3.trans k2, k3, r⟩
    · have n1 : h₁.get? a = none := hwr a ha
      have al := (hfp a (W.base.sub a ha)).2
      refine ⟨?_, fun z => (by rw [z, fD] at al; cases al), fun z => (by rw [show (compEnvC scope cl H3.objs.size c.env).locals = H3.objs.size from rfl] at z; rw [z, fC] at al; cases al), ?_⟩
      · cases e : F₁.f a with
        | none => rfl
        | some o => rw [u₁.sub a o e] at n1; cases n1
      · cases e : s.heap.get? a with
        | none => rfl
        | some o => rw [u₁.keep a o e] at n1; cases n1
    · have al := (hfp a ha).2
      obtain ⟨o, e⟩ := Option.isSome_iff_exists.mp al
      exact ⟨(by rw [old a o e]; rfl), fun z => (by rw [z, fD] at al; cases al), fun z => (by rw [show (compEnvC scope cl H3.objs.size c.env).locals = H3.objs.size from rfl] at z; rw [z, fC] at al; cases al)⟩
    · obtain ⟨vs, n, e5, p5⟩ := X₅.acc
      obtain ⟨m5, hn5⟩ := X₅.ns
      exact hR _ _ F₅ h₅ tk₅ vs n m5 X₅.up e5 (by simpa using p5) X₅.FD X₅.FC X₅.C0 X₅.D0 hDC hn5
  subst he
  exact start0 loop fun E => walks_self (s := { s with heap := h₄, toks := tk₂ + 0 }) W hst₄ E
theorem ev_comp {e : Expr} {elt iter : Expr} {x : Str} {px : Pos} {ifs : List Expr} {rest : List Comprehension} {scope : Scope} {pos : Pos} (cl : List (Str × Addr)) {ρ : Rho} (ρc : Rho) {p : PV} {items : List PV} {res : List IV} {act : Env → Value → Sem Unit}
    (he : e = .ListComp elt (⟨.Name x px, iter, ifs, 0⟩ :: rest) scope pos)
    (hi : EV c ρ iter p) (hit : IterOK c p items) (hk : EnvOK c.env) (hrun : ∀ C, CompRun c (compEnvC scope cl C c.env) (act (compEnvC scope cl C c.env)) x ρc items res)
    (hrule : ∀ C, LoopRule c (compEnvC scope cl C c.env) e 0 x (act (compEnvC scope cl C c.env))) (hlen : res.length ≤ 100000)
    (hclos : closureFor scope c.env = pure cl) (hnames : ∀ y ∈ scope.names, y.2 = .local → scope.names.lookup y.1 = some .local) (hs : ∀ y, foldedSetIterable iter c.env y = pure y)
    (hcell : ∀ y ∈ scope.names, y.2 ≠ .cell) (hkind : scope.kind = .function) (hx : scope.names.lookup x = some .local) (hxc : ρc.lookup x = none) (hsub : SubR ρc ρ) (hcl : ∀ C, CellsOK c.env (compEnvC scope cl C c.env) cl ρc) : EV c ρ e (.list res) := by with_unfolding_all
  intro F s P V Q E hQ
  have core := fun (RR : Value → Addr → Result → Shared → Prop) E hR => comp_core (RR := RR) (E := E) he hi hit hk hrun hrule hlen hcell hkind hx hxc hsub hcl P V hR
  subst he
  rw [eval_ListComp]
  refine wpAny_comprehension_free (use := none) rfl hs hclos hkind hnames ?_
  refine core (fun acc C => compPost (model c.prog c.w) c.A E none Q acc C) E fun D C F' h' tk vs n m u eD pD FD FC sC sD hne hn => ⟨m, hn, fun h'' hs'' => ?_⟩
  have keep : ∀ a o, a ≠ C → h'.get? a = some o → h''.get? a = some o := fun a o z e => (hs''.2 a z).trans e
  refine hQ (.ref D) (addF F' D (listObj vs n)) h'' tk ⟨⟨fun a o e => ?_, u.le.hi⟩, fun a o e => ?_, fun a o e => keep a o (fun z => by rw [z, sC] at e; cases e) (u.keep a o e), fun a o e => ?_, u.hi, u.mono⟩ (.list (addF_self _ _ _) pD)
  · show (if a = D then some (listObj vs n) else F'.f a) = some o
    by_cases z : a = D
    · subst z; rw [P.sub a o e] at sD; cases sD
    · rw [if_neg z]; exact u.le.f a o e
  · have e : (if a = D then some (listObj vs n) else F'.f a) = some o := e
    by_cases z : a = D
    · subst z; rw [if_pos rfl] at e; cases e; exact keep _ _ hne eD
    · rw [if_neg z] at e; exact keep a o (fun z => by rw [z, FC] at e; cases e) (u.sub a o e)
  · have e : (if a = D then some (listObj vs n) else F'.f a) = some o := e
    by_cases z : a = D
    · subst z; exact .inr sD
    · rw [if_neg z] at e; exact u.new a o e
theorem Inv.butNs {a : Act} {F : PM} {ρ : Rho} {ow : Own} {s : Shared} {C : Addr} {mC : Str → Option Value} {h' : Heap} (I : Inv c a F ρ ow s) (hC : s.heap.Ns C mC) (h0 : a.h0 C = none) (hF : F.f C = none) (hL : C ≠ c.env.locals) (hc : ∀ n, c.env.cells.lookup n ≠ some C) (hs : ∀ b, b ≠ C → h'.get? b = s.heap.get? b) :
    Inv c a F ρ ow { s with heap := h' } := by
  obtain ⟨m, hn, hv, hw⟩ := I.store
  have notList : ∀ vs n, s.heap.get? C ≠ some (listObj vs n) := fun vs n e => ns_ne hC e (fun es n q => by cases q) rfl
  have var : ∀ y v, VarIs c.env m s.heap y v → VarIs c.env m h' y v := fun y v k => k.but (d := C) hs fun cc v e _ z => hc y (z ▸ e)
  refine ⟨I.room, I.gb, I.g0, fun b o e => (hs b (fun z => by rw [z, h0] at e; cases e)).trans (I.keep b o e), fun b o e => (hs b (fun z => by rw [z, hF] at e; cases e)).trans (I.sub b o e), I.le, I.new, I.hi, I.lo, I.lo0, ⟨I.priv.l0, I.priv.lF, fun n cc e => ?_, I.priv.inj⟩, m, ?_, fun y p e => let ⟨v, k, r⟩ := hv y p e; ⟨v, var y v k, r⟩,
    hw.but (d := C) hs notList fun y b _ k => var y _ k⟩
  · obtain ⟨x, y, v, o, z, w⟩ := I.priv.c0 n cc e
    exact ⟨x, y, v, o, (hs cc (fun q => hc n (q ▸ e))).trans z, w⟩
  · exact hn.at' fun o e => (hs _ hL.symm).trans e
theorem ex_assign_comp {e : Expr} {elt iter : Expr} {x y : Str} {px py spos : Pos} {ifs : List Expr} {rest : List Comprehension} {scope : Scope} {pos : Pos} (cl : List (Str × Addr)) {ρ : Rho} (ρc : Rho) {ow : Own} {p : PV} {items : List PV} {res : List IV} {act : Env → Value → Sem Unit}
    (he : e = .ListComp elt (⟨.Name x px, iter, ifs, 0⟩ :: rest) scope pos)
    (hi : EV c ρ iter p) (hit : IterOK c p items) (hk : EnvOK c.env) (hrun : ∀ C, CompRun c (compEnvC scope cl C c.env) (act (compEnvC scope cl C c.env)) x ρc items res)
    (hrule : ∀ C, LoopRule c (compEnvC scope cl C c.env) e 0 x (act (compEnvC scope cl C c.env))) (hlen : res.length ≤ 100000)
    (hclos : closureFor scope c.env = pure cl) (hnames : ∀ y ∈ scope.names, y.2 = .local → scope.names.lookup y.1 = some .local) (hs : ∀ y, foldedSetIterable iter c.env y = pure y)
    (hcell : ∀ y ∈ scope.names, y.2 ≠ .cell) (hkind : scope.kind = .function) (hx : scope.names.lookup x = some .local) (hxc : ρc.lookup x = none) (hsub : SubR ρc ρ) (hcl : ∀ C, CellsOK c.env (compEnvC scope cl C c.env) cl ρc)
    (hsw : swapsWith e (some (.Name y py)) spos.line c.env = pure true) (hy : CanStore c.env y) (ho : ow.name ≠ some y) : EX c (.Assign [.Name y py] e spos) ρ ow .next ((y, .list res) :: ρ) ow := by with_unfolding_all
  intro a F s I Q E hQ
  have core := fun (RR : Value → Addr → Result → Shared → Prop) E hR => comp_core (RR := RR) (E := E) he hi hit hk hrun hrule hlen hcell hkind hx hxc hsub hcl I.pre I.vars hR
  subst he
  rw [exec_Assign_Name_used _ _ _ _ hsw]
  refine wpAny_bind (wpAny_standAt (wpAny_bind ?_))
  show wpAny _ c.A (do let _ ← comprehension (.ListComp elt (⟨.Name x px, iter, ifs, 0⟩ :: rest) scope pos) scope c.env _ (newList []) false (eval iter c.env) (some (assign (.Name y py) c.env))) _ _ s
  refine wpAny_bind (wpAny_mono (wpAny_comprehension_free (use := some (assign (.Name y py) c.env)) (Q := fun _ s' => Q .next s') rfl hs hclos hkind hnames ?_) (fun _ s' hq => wpAny_pure (wpAny_pure hq)) fun _ _ e => e)
  refine core (fun acc C => compPost (model c.prog c.w) c.A E (some (assign (.Name y py) c.env)) (fun _ s' => Q .next s') acc C) E fun D C F' h' tk vs n m u eD pD FD FC sC sD hne hn => ?_
  show wpAny _ c.A (assign (.Name y py) c.env (.ref D)) _ _ _
  have u' : Up F s (addF F' D (listObj vs n)) h' tk := by
    refine ⟨⟨fun a o e => ?_, u.le.hi⟩, fun a o e => ?_, u.keep, fun a o e => ?_, u.hi, u.mono⟩
    · show (if a = D then some (listObj vs n) else F'.f a) = some o
      by_cases z : a = D
      · subst z; rw [I.sub a o e] at sD; cases sD
      · rw [if_neg z]; exact u.le.f a o e
    · have e : (if a = D then some (listObj vs n) else F'.f a) = some o := e
      by_cases z : a = D
      · subst z; rw [if_pos rfl] at e; cases e; exact eD
      · rw [if_neg z] at e; exact u.sub a o e
    · have e : (if a = D then some (listObj vs n) else F'.f a) = some o := e
      by_cases z : a = D
      · subst z; exact .inr sD
      · rw [if_neg z] at e; exact u.new a o e
  have I₁ := I.up (tk := tk) u'
  have CL : C ≠ c.env.locals := fun z => by
    obtain ⟨_, ⟨o, _, _, q, _⟩, _⟩ := I.store
    rw [z, q] at sC; cases sC
  have Cc : ∀ n, c.env.cells.lookup n ≠ some C := fun n z => by
    obtain ⟨_, _, v, o, q, _⟩ := I.priv.c0 n C z
    rw [q] at sC; cases sC
  refine wpAny_assign_Name (store_inv I₁ hk hy ho fun h₃ tk₃ hI _ _ _ _ _ _ keep₃ => ?_)
  have hn₃ : h₃.Ns C m := hn.at' fun o e => keep₃ C o CL Cc e
  refine ⟨m, hn₃, fun h'' hs'' => ?_⟩
  have I₃ := hI (.list res) (.list (addF_self _ _ _) pD)
  have C0 : a.h0 C = none := by
    cases e : a.h0 C with
    | none => rfl
    | some o => rw [I.keep C o e] at sC; cases sC
  exact hQ .next _ h'' tk₃ u'.le (I₃.butNs hn₃ C0 (by show (if C = D then some (listObj vs n) else F'.f C) = none; rw [if_neg (fun z => hne z.symm)]; exact FC) CL Cc hs''.2) .next
theorem run_map {cenv : Env} {elt : Expr} {x : Str} {ρc : Rho} {α : Type} {f : α → PV} {g : α → IV} : ∀ (l : List α), (∀ y ∈ l, EV { c with env := cenv } ((x, f y) :: ρc) elt (.imm (g y))) → CompRun c cenv (actElt elt cenv) x ρc (l.map f) (l.map g)
  | [], _ => .nil
  | y :: r, h => by
    exact CompRun.cons (r := [g y]) (turn_elt (h y List.mem_cons_self)) (run_map r fun z hz => h z (List.mem_cons_of_mem _ hz))
theorem run_filter {cenv : Env} {elt t : Expr} {x : Str} {ρc : Rho} {α : Type} {f : α → PV} {q : α → Bool} {g : α → IV} : ∀ (l : List α), (∀ y ∈ l, EB { c with env := cenv } ((x, f y) :: ρc) t (q y)) → (∀ y ∈ l, q y = true → EV { c with env := cenv } ((x, f y) :: ρc) elt (.imm (g y))) →
    CompRun c cenv (actIf t elt cenv) x ρc (l.map f) ((l.filter q).map g)
  | [], _, _ => .nil
  | y :: r, h, k => by
    have ih := run_filter r (fun z hz => h z (List.mem_cons_of_mem _ hz)) fun z hz => k z (List.mem_cons_of_mem _ hz)
    cases e : q y with
    | false =>
      rw [List.filter_cons, e]
      exact CompRun.cons (r := []) (turn_if (res := []) (h y List.mem_cons_self) (fun _ => rfl) (fun z => by rw [e] at z; cases z)) ih
    | true =>
      rw [List.filter_cons, e]
      exact CompRun.cons (r := [g y]) (turn_if (res := [g y]) (h y List.mem_cons_self) (fun z => by rw [e] at z; cases z) fun _ => ⟨_, rfl, k y List.mem_cons_self e⟩) ih
end
end Mine
end
section
open PySem PySem.W PySem.Calls PyProof.Rows
namespace Mine
section
variable {c : Cx} {a : Act} {F : PM} {ρ : Rho} {ow : Own} {s : Shared}
theorem varIs_fun {env : Env} {m : Str → Option Value} {h : Heap} {x : Str} {v v' : Value} (p : VarIs env m h x v) (q : VarIs env m h x v') : v = v' := by
  rcases p with ⟨k, e⟩ | ⟨k, cc, hc, o, e, d⟩ <;> rcases q with ⟨k', e'⟩ | ⟨k', cc', hc', o', e', d'⟩
  · exact Option.some.inj (e.symm.trans e')
  · rw [k] at k'; cases k'
  · rw [k] at k'; cases k'
  · have hcc : cc = cc' := Option.some.inj (hc.symm.trans hc')
    subst hcc
    rw [e] at e'; cases e'
    rw [d] at d'
    injection d' with d'
    exact Option.some.inj d'
theorem Inv.turnList {b : Addr} {vs : List Value} {n : Nat} {h' : Heap} {ow' : Own} {o : Obj} (I : Inv c a F ρ ow s) (e : s.heap.get? b = some (listObj vs n)) (hF : F.f b = none) (h0 : a.h0 b = none) (hs : ∀ y, y ≠ b → h'.get? y = s.heap.get? y) (hb : h'.get? b = some o)
    (ho : ∀ m, s.heap.Ns c.env.locals m → (∀ y v, VarIs c.env m s.heap y v → VarIs c.env m h' y v) → OwnIs c.env a F m s.heap ow → OwnIs c.env a F m h' ow') : Inv c a F ρ ow' { s with heap := h' } := by
  obtain ⟨m, hn, hv, hw⟩ := I.store
  have Lb : c.env.locals ≠ b := fun z => ns_ne hn e (fun es n q => by cases q) z.symm
  have cb : ∀ n cc, c.env.cells.lookup n = some cc → cc ≠ b := fun n cc h z => by
    obtain ⟨_, _, v, o, q, w⟩ := I.priv.c0 n cc h
    rw [z, e] at q; cases q; cases w
  have var : ∀ y v, VarIs c.env m s.heap y v → VarIs c.env m h' y v := fun y v k => k.but (d := b) hs fun cc v e' _ => cb y cc e'
  refine ⟨I.room, I.gb, I.g0, fun y o e' => (hs y (fun z => by rw [z, h0] at e'; cases e')).trans (I.keep y o e'), fun y o e' => (hs y (fun z => by rw [z, hF] at e'; cases e')).trans (I.sub y o e'), I.le, I.new, I.hi, I.lo, I.lo0,
    ⟨I.priv.l0, I.priv.lF, fun n cc h => ?_, I.priv.inj⟩, m, hn.at' fun o e' => (hs _ Lb).trans e', fun y p h => let ⟨v, k, r⟩ := hv y p h; ⟨v, var y v k, r⟩, ho m hn var hw⟩
  obtain ⟨x, y, v, o, z, w⟩ := I.priv.c0 n cc h
  exact ⟨x, y, v, o, (hs cc (cb n cc h)).trans z, w⟩
theorem eval_nil_list {pos : Pos} {Q : Value → Shared → Prop} {E} (P : Pre c F s) (h : Q (.ref s.heap.objs.size) { s with heap := s.heap.push (listObj [] 0) }) : wpAny (model c.prog c.w) c.A (eval (.List [] pos) c.env) Q E s := by
  refine List_ (spliced_nil ?_)
  exact wpAny_newObj_type h (Nat.zero_le _)
theorem Vars_drop {c : Cx} {x : Str} {v : Value} (I : Inv c a F ((x, .val v) :: ρ) ow s) {ρ' : Rho} (h : SubR ρ' ρ) (hx : ρ'.lookup x = none) : Inv c a F ρ' ow s := I.weak fun y p e => by
  by_cases z : y = x
  · subst z; rw [hx] at e; cases e
  · have z' : (y == x) = false := beq_eq_false_iff_ne.mpr z
    simp only [List.lookup_cons, z']; exact h y p e
theorem ex_own_new {x : Str} {px pos lp : Pos} {ρ' : Rho} (hk : EnvOK c.env) (hx : CanStore c.env x) (hsub : SubR ρ' ρ) (hxn : ρ'.lookup x = none) (hs : swapsWith (.List [] lp) (some (.Name x px)) pos.line c.env = pure false) (ow' : Own) (hw : ow' = .one x [] ∨ ow' = .nest x []) :
    EX c (.Assign [.Name x px] (.List [] lp) pos) ρ .none .next ρ' ow' := by with_unfolding_all
  intro a F s I Q E hQ
  refine wpAny_Assign_Name (eval_nil_list I.pre ?_) hs
  have I₁ := I.up (tk := s.toks) (Up.kept I.sub (Kp.push s.heap (listObj [] 0)) I.hi (Nat.le_refl _))
  have sz : s.heap.get? s.heap.objs.size = none := get_size _
  have F0 : F.f s.heap.objs.size = none := by
    cases e : F.f s.heap.objs.size with
    | none => rfl
    | some o => rw [I.sub _ o e] at sz; cases sz
  have a0 : a.h0 s.heap.objs.size = none := by
    cases e : a.h0 s.heap.objs.size with
    | none => rfl
    | some o => rw [I.keep _ o e] at sz; cases sz
  refine store_inv I₁ hk hx (by simp [Own.name]) fun h' tk hI keep ⟨m', hn', kx, _⟩ _ _ _ _ _ => ?_
  have I₂ := Vars_drop (hI (.val _) (.val _)) hsub hxn
  have eb : h'.get? s.heap.objs.size = some (listObj [] 0) := keep _ _ (Heap.get?_push_size _ rfl) (fun _ _ q => by cases q) (fun _ q => by cases q)
  obtain ⟨m, hn, hv, _⟩ := I₂.store
  have hm : m = m' := by
    obtain ⟨o1, es1, ep1, a1, a2, a3, a4⟩ := hn
    obtain ⟨o2, es2, ep2, b1, b2, b3, b4⟩ := hn'
    have : o1 = o2 := Option.some.inj (a1.symm.trans b1)
    subst this
    rw [a2] at b2; cases b2
    funext z; rw [← b4 z, ← a4 z]
  subst hm
  refine hQ .next F h' tk (LeF.refl _) { I₂ with store := ⟨m, hn, hv, ?_⟩ } .next
  rcases hw with rfl | rfl
  · exact ⟨_, kx, [], 0, eb, .nil, F0, a0⟩
  · exact ⟨_, [], 0, kx, eb, F0, a0, by simp, by simp, .nil⟩
theorem ex_own_append {x : Str} {px apos pos spos : Pos} {e : Expr} {l : List IV} {i : IV} (hk : EnvOK c.env) (he : EV c ρ e (.imm i)) (hx : c.env.kindOf x = some .local) (hd : (x == ("__debug__" : Str)) = false)
    (hlen : l.length ≤ 100000) (hp : (starEach [e] c.env).all (fun x => !x.1) = true) (hse : starEach [e] c.env = (false, eval e c.env) :: starEach [] c.env) (hline : (apos.endLine == pos.line) = true) (hbase : attributeBase (.Name x px) "append" c.env (eval (.Name x px) c.env) = eval (.Name x px) c.env)
    (hi : interactive c.env = false) (hs : swapsWith (.Call (.Attribute (.Name x px) "append" apos) [e] [] pos) none spos.line c.env = pure false) :
    EX c (.Expr (.Call (.Attribute (.Name x px) "append" apos) [e] [] pos) spos) ρ (.one x l) .next ρ (.one x (l ++ [i])) := by with_unfolding_all
  intro a F s I Q E hQ
  refine wpAny_Expr ?_ hi hs
  obtain ⟨m, hn, hv, b, hb, vs, n, eb, pb, Fb, ab⟩ := I.store
  refine wpAny_Call_method hbase ?_ hline PySem.F.plainAttrs_list slot_list_append PySem.F.type_list_append ?_
  · have h1 : (backTo pos (starEach [e] c.env)).all (fun x => !x.1) = true := by
      unfold backTo; rw [List.all_map]; exact hp
    rw [h1]; rfl
  · refine wpAny_Name ?_ hd
    have fin : s.TypeIs (.ref b) "list" ∧ (∀ a, Value.ref b = .ref a → ∃ ob, s.heap.get? a = some ob ∧ ob.dict = none) ∧
      wpAny (model c.prog c.w) c.A (callWith pos (.builtin "list.append") [.ref b] (backTo pos (starEach [e] c.env)) []) (fun v s' => match v with | .ref _ => False | _ => Q .next s') E s := by
      refine ⟨⟨_, eb, rfl⟩, fun a h => by cases h; exact ⟨_, eb, rfl⟩, callWith_builtin (plain_args hp) ?_⟩
      have hes : EVs c ρ [e] [.imm i] := evs_cons he evs_nil hse
      refine evalArgs_of hes hp pos I.pre I.vars fun vs' F₁ h₁ tk₁ u₁ rs => ?_
      obtain ⟨v, rfl, rv⟩ := one_arg rs
      have I₁ := I.up (tk := tk₁) u₁
      have eb₁ : h₁.get? b = some (listObj vs n) := u₁.keep _ _ eb
      have Fb₁ := noneUp u₁ eb Fb
      cases rv with
      | imm rv =>
      refine append_at eb₁ (fun h' hs' hD => ?_) (by rw [List.size_toArray, pb.length]; exact Nat.le_trans hlen (by decide))
      have hD' : h'.get? b = some (listObj (vs ++ [v]) (n + 1)) := by
        rw [hD]
        show some ({ cls := .type "list", data := .seq (vs.toArray.push v) (n + 1) } : Obj) = _
        rw [List.push_toArray]
      refine hQ .next F₁ h' tk₁ u₁.le (I₁.turnList eb₁ Fb₁ ab hs'.2 hD' fun m₁ hn₁ var ho => ?_) .next
      obtain ⟨b₁, hb₁, vs₁, n₁, e₁, p₁, _, _⟩ := ho
      have hbb : b₁ = b := by
        have hm : m₁ = m := by
          have hn' := hn.keeps u₁.keep
          obtain ⟨o1, es1, ep1, a1, a2, a3, a4⟩ := hn₁
          obtain ⟨o2, es2, ep2, b1, b2, b3, b4⟩ := hn'
          have : o1 = o2 := Option.some.inj (a1.symm.trans b1)
          subst this
          rw [a2] at b2; cases b2
          funext z; rw [← b4 z, ← a4 z]
        subst hm
        have := varIs_fun hb₁ (hb.keeps u₁.keep)
        cases this; rfl
      subst hbb
      exact ⟨b₁, var _ _ hb₁, vs ++ [v], n + 1, hD', paired_append (Paired.imp (fun _ _ r => r.mono u₁.le.hi) pb) (.cons rv .nil), Fb₁, ab⟩
    rcases hb with ⟨hl, hbv⟩ | ⟨hl, _⟩
    · exact wpAny_loadName_local hk.kind hl hn hbv fin
    · rw [hx] at hl; cases hl
theorem ns_fun {h : Heap} {L : Addr} {m m' : Str → Option Value} (hn : h.Ns L m) (hn' : h.Ns L m') : m = m' := by
  obtain ⟨o1, es1, ep1, a1, a2, a3, a4⟩ := hn
  obtain ⟨o2, es2, ep2, b1, b2, b3, b4⟩ := hn'
  have : o1 = o2 := Option.some.inj (a1.symm.trans b1)
  subst this
  rw [a2] at b2; cases b2
  funext z; rw [← b4 z, ← a4 z]
theorem OwnAt.same {F : PM} {h h' : Heap} {d b : Addr} {l : List IV} (x : OwnAt a F h d l) (hs : ∀ y, y ≠ b → h'.get? y = h.get? y) (hne : d ≠ b) : OwnAt a F h' d l :=
  let ⟨vs, n, e, r⟩ := x; ⟨vs, n, (hs d hne).trans e, r⟩
theorem pairedOwn_same {F : PM} {h h' : Heap} {b : Addr} (hs : ∀ y, y ≠ b → h'.get? y = h.get? y) : ∀ {bs : List Addr} {ls : List (List IV)}, Paired (OwnAt a F h) bs ls → b ∉ bs → Paired (OwnAt a F h') bs ls
  | _, _, .nil, _ => .nil
  | _, _, .cons x t, hb => .cons (x.same hs fun z => hb (z ▸ List.mem_cons_self)) (pairedOwn_same hs t fun z => hb (List.mem_cons_of_mem _ z))
theorem ex_nest_push {x : Str} {px apos pos spos lp : Pos} {ls : List (List IV)} (hk : EnvOK c.env) (hx : c.env.kindOf x = some .local) (hd : (x == ("__debug__" : Str)) = false)
    (hlen : ls.length ≤ 100000) (hse : starEach [.List [] lp] c.env = (false, eval (.List [] lp) c.env) :: starEach [] c.env) (hline : (apos.endLine == pos.line) = true) (hbase : attributeBase (.Name x px) "append" c.env (eval (.Name x px) c.env) = eval (.Name x px) c.env)
    (hi : interactive c.env = false) (hs : swapsWith (.Call (.Attribute (.Name x px) "append" apos) [.List [] lp] [] pos) none spos.line c.env = pure false) :
    EX c (.Expr (.Call (.Attribute (.Name x px) "append" apos) [.List [] lp] [] pos) spos) ρ (.nest x ls) .next ρ (.nest x (ls ++ [[]])) := by with_unfolding_all
  intro a F s I Q E hQ
  have hp : (starEach [.List [] lp] c.env).all (fun x => !x.1) = true := by rw [hse]; rfl
  refine wpAny_Expr ?_ hi hs
  obtain ⟨m, hn, hv, b, bs, n, hb, eb, Fb, ab, hnb, hnd, hpp⟩ := I.store
  refine wpAny_Call_method hbase ?_ hline PySem.F.plainAttrs_list slot_list_append PySem.F.type_list_append ?_
  · have h1 : (backTo pos (starEach [.List [] lp] c.env)).all (fun x => !x.1) = true := by
      unfold backTo; rw [List.all_map]; exact hp
    rw [h1]; rfl
  · refine wpAny_Name ?_ hd
    have fin : s.TypeIs (.ref b) "list" ∧ (∀ a, Value.ref b = .ref a → ∃ ob, s.heap.get? a = some ob ∧ ob.dict = none) ∧
      wpAny (model c.prog c.w) c.A (callWith pos (.builtin "list.append") [.ref b] (backTo pos (starEach [.List [] lp] c.env)) []) (fun v s' => match v with | .ref _ => False | _ => Q .next s') E s := by
      refine ⟨⟨_, eb, rfl⟩, fun a h => by cases h; exact ⟨_, eb, rfl⟩, callWith_builtin (plain_args hp) ?_⟩
      have hargs : wpAny (model c.prog c.w) c.A (evalArgs (.builtin "list.append") true (backTo pos (starEach [.List [] lp] c.env)) []) (fun ar s' => ar = ⟨[.ref s.heap.objs.size], []⟩ ∧ s' = { s with heap := s.heap.push (listObj [] 0) }) E s := by
        rw [hse]
        refine evalArgs_plain (spliced_cons (eval_nil_list I.pre (spliced_nil ⟨rfl, rfl⟩)))
      refine wpAny_mono hargs (fun ar s' ⟨e1, e2⟩ => ?_) fun _ _ e => e
      subst e1; subst e2
      have I₁ := I.up (tk := s.toks) (Up.kept I.sub (Kp.push s.heap (listObj [] 0)) I.hi (Nat.le_refl _))
      have sz : s.heap.get? s.heap.objs.size = none := get_size _
      have F0 : F.f s.heap.objs.size = none := by
        cases e : F.f s.heap.objs.size with
        | none => rfl
        | some o => rw [I.sub _ o e] at sz; cases sz
      have a0 : a.h0 s.heap.objs.size = none := by
        cases e : a.h0 s.heap.objs.size with
        | none => rfl
        | some o => rw [I.keep _ o e] at sz; cases sz
      have eb₁ : (s.heap.push (listObj [] 0)).get? b = some (listObj (bs.map Value.ref) n) := Heap.get?_push_of_some _ eb
      have nb : s.heap.objs.size ≠ b := fun z => by rw [z, eb] at sz; cases sz
      have nbs : s.heap.objs.size ∉ bs := fun z => by
        have : ∀ {bs : List Addr} {ls : List (List IV)}, Paired (OwnAt a F s.heap) bs ls → ∀ y ∈ bs, ∃ o, s.heap.get? y = some o := by
          intro bs ls h
          induction h with
          | nil => intro y hy; cases hy
          | cons hd _ ih =>
            intro y hy
            rcases List.mem_cons.mp hy with z | z
            · subst z; obtain ⟨vs, n, e, _⟩ := hd; exact ⟨_, e⟩
            · exact ih y z
        obtain ⟨o, e⟩ := this hpp _ z
        rw [sz] at e; cases e
      refine append_at eb₁ (fun h' hs' hD => ?_) (by rw [List.size_toArray, List.length_map, hpp.length]; exact Nat.le_trans hlen (by decide))
      have hD' : h'.get? b = some (listObj ((bs ++ [s.heap.objs.size]).map Value.ref) (n + 1)) := by
        rw [hD]
        show some ({ cls := .type "list", data := .seq ((bs.map Value.ref).toArray.push _) (n + 1) } : Obj) = _
        rw [List.push_toArray, List.map_append]; rfl
      refine hQ .next F h' s.toks (LeF.refl _) (I₁.turnList eb₁ Fb ab hs'.2 hD' fun m₁ hn₁ var ho => ?_) .next
      have hm := ns_fun hn₁ (hn.keeps (Kp.push _ _))
      subst hm
      refine ⟨b, bs ++ [s.heap.objs.size], n + 1, var _ _ (hb.keeps (Kp.push _ _)), hD', Fb, ab, ?_, ?_, paired_append (pairedOwn_same hs'.2 (Paired.imp (fun d l (q : OwnAt a F s.heap d l) => let ⟨vs, n, e, r⟩ := q; ⟨vs, n, Kp.push _ _ _ _ e, r⟩) hpp) hnb) (.cons ⟨[], 0, ?_, .nil, F0, a0⟩ .nil)⟩
      · simp only [List.mem_append, List.mem_singleton, not_or]; exact ⟨hnb, fun z => nb z.symm⟩
      · rw [List.nodup_append]
        refine ⟨hnd, by simp, fun y hy z hz e => ?_⟩
        rw [List.mem_singleton] at hz
        exact nbs (hz ▸ e ▸ hy)
      · rw [hs'.2 _ nb]; exact Heap.get?_push_size _ rfl
    rcases hb with ⟨hl, hbv⟩ | ⟨hl, _⟩
    · exact wpAny_loadName_local hk.kind hl hn hbv fin
    · rw [hx] at hl; cases hl
theorem ex_nest_last {x : Str} {px apos pos spos sp : Pos} {e ie : Expr} {ls : List (List IV)} {l : List IV} {i : IV} (hk : EnvOK c.env) (he : EV c ρ e (.imm i)) (hie : EV c ρ ie (.int (-1))) (hx : c.env.kindOf x = some .local) (hd : (x == ("__debug__" : Str)) = false)
    (hlen : l.length ≤ 100000) (hls : ls.length ≤ 100000) (hp : (starEach [e] c.env).all (fun x => !x.1) = true) (hse : starEach [e] c.env = (false, eval e c.env) :: starEach [] c.env) (hline : (apos.endLine == pos.line) = true)
    (hbase : attributeBase (.Subscript (.Name x px) ie sp) "append" c.env (eval (.Subscript (.Name x px) ie sp) c.env) = eval (.Subscript (.Name x px) ie sp) c.env)
    (ht : ∀ va r, letTemporaryGo (.Name x px) va r = pure ())
    (hi : interactive c.env = false) (hs : swapsWith (.Call (.Attribute (.Subscript (.Name x px) ie sp) "append" apos) [e] [] pos) none spos.line c.env = pure false) :
    EX c (.Expr (.Call (.Attribute (.Subscript (.Name x px) ie sp) "append" apos) [e] [] pos) spos) ρ (.nest x (ls ++ [l])) .next ρ (.nest x (ls ++ [l ++ [i]])) := by with_unfolding_all
  intro a F s I Q E hQ
  refine wpAny_Expr ?_ hi hs
  obtain ⟨m, hn, hv, b, bs, n, hb, eb, Fb, ab, hnb, hnd, hpp⟩ := I.store
  obtain ⟨bs', d, rfl, hp', hd'⟩ : ∃ bs' d, bs = bs' ++ [d] ∧ Paired (OwnAt a F s.heap) bs' ls ∧ OwnAt a F s.heap d l := by
    have : ∀ (ls : List (List IV)) (bs : List Addr), Paired (OwnAt a F s.heap) bs (ls ++ [l]) → ∃ bs' d, bs = bs' ++ [d] ∧ Paired (OwnAt a F s.heap) bs' ls ∧ OwnAt a F s.heap d l := by
      intro ls
      induction ls with
      | nil => intro bs h; cases h with | cons h t => cases t; exact ⟨[], _, rfl, .nil, h⟩
      | cons q ls ih =>
        intro bs h
        cases h with
        | cons h t =>
          obtain ⟨bs', d, rfl, p, r⟩ := ih _ t
          exact ⟨_ :: bs', d, rfl, .cons h p, r⟩
    exact this ls bs hpp
  have hlen' : bs'.length = ls.length := hp'.length
  obtain ⟨vs, nd, ed, pd, Fd, ad⟩ := hd'
  refine wpAny_Call_method hbase ?_ hline PySem.F.plainAttrs_list slot_list_append PySem.F.type_list_append ?_
  · have h1 : (backTo pos (starEach [e] c.env)).all (fun x => !x.1) = true := by
      unfold backTo; rw [List.all_map]; exact hp
    rw [h1]; rfl
  · -- the last of the lists
    have sub : ∀ (Q : Value → Shared → Prop), (∀ h₁ tk₁, Up F s F h₁ tk₁ ∨ True → ∀ F₁, Up F s F₁ h₁ tk₁ → Q (.ref d) { s with heap := h₁, toks := tk₁ }) →
        wpAny (model c.prog c.w) c.A (eval (.Subscript (.Name x px) ie sp) c.env) Q E s := by
      intro Q hQ'
      rw [eval_Subscript]
      have go : wpAny (model c.prog c.w) c.A (holding [Value.ref b] (eval ie c.env) >>= fun iv => do
          standAt sp
          let r ← subscripted ie (← getitemInPython (.ref b)) (.ref b) iv
          letTemporaryGo (.Name x px) (.ref b) r
          pure r) Q E s := by
        refine wpAny_bind (wpAny_holding ?_)
        refine hie F s I.pre I.vars _ _ fun vi F₁ h₁ tk₁ u₁ ri => wpAny_bind (wpAny_standAt ?_)
        obtain ⟨t, rfl⟩ := rv_int ri
        have eb₁ : h₁.get? b = some (listObj ((bs' ++ [d]).map Value.ref) n) := u₁.keep _ _ eb
        have hT : ({ s with heap := h₁, toks := tk₁ } : Shared).TypeIs (.ref b) "list" := ⟨_, eb₁, rfl⟩
        refine wpAny_bind ?_
        rw [getitemInPython_of_ne hT.not_modules]
        refine wpAny_bind (wpAny_specialOf hT slot_list_getitem.lookup ?_)
        have sb : subscripted ie false (.ref b) (.int (-1) t) = operate [.ref b, .int (-1) t] (getItem (.ref b) (.int (-1) t)) ∨ subscripted ie false (.ref b) (.int (-1) t) = operate [.int (-1) t, .ref b] (getItem (.ref b) (.int (-1) t)) := by
          unfold subscripted; split <;> simp_all
        have fin : wpAny (model c.prog c.w) c.A (subscripted ie false (.ref b) (.int (-1) t)) (fun r s₃ => wpAny (model c.prog c.w) c.A (letTemporaryGo (.Name x px) (.ref b) r >>= fun _ => pure r) Q E s₃) E { s with heap := h₁, toks := tk₁ } := by
          have gi : wpAny (model c.prog c.w) c.A (getItem (.ref b) (.int (-1) t)) (fun r s₃ => wpAny (model c.prog c.w) c.A (letTemporaryGo (.Name x px) (.ref b) r >>= fun _ => pure r) Q E s₃) E { s with heap := h₁, toks := tk₁ } := by
            refine wpAny_getItem_list_neg (items := ((bs' ++ [d]).map Value.ref).toArray) ⟨_, eb₁, rfl, _, rfl⟩ (by omega) (by simp; omega) (by simp <;> omega) (x := .ref d) ?_ (wpAny_bind (wpAny_of_eq (ht _ _) (wpAny_pure (hQ' h₁ tk₁ (.inr trivial) F₁ u₁))))
            rw [List.size_toArray, List.length_map, List.length_append, List.length_singleton]
            have : ((-1 : Int) + ((bs'.length + 1 : Nat) : Int)).toNat = bs'.length := by omega
            rw [this]; simp
          rcases sb with e | e <;> rw [e] <;> exact wpAny_operating gi
        first
          | exact wpAny_pure (wpAny_bind fin)
          | exact wpAny_bind (wpAny_pure (wpAny_bind fin))
          | exact wpAny_bind fin
      refine wpAny_bind (wpAny_Name ?_ hd)
      rcases hb with ⟨hl, hbv⟩ | ⟨hl, _⟩
      · exact wpAny_loadName_local hk.kind hl hn hbv go
      · rw [hx] at hl; cases hl
    refine sub _ fun h₁ tk₁ _ F₁ u₁ => ?_
    have I₁ := I.up (tk := tk₁) u₁
    refine ⟨⟨_, u₁.keep _ _ ed, rfl⟩, fun a h => by cases h; exact ⟨_, u₁.keep _ _ ed, rfl⟩, callWith_builtin (plain_args hp) ?_⟩
    have hes : EVs c ρ [e] [.imm i] := evs_cons he evs_nil hse
    refine evalArgs_of hes hp pos I₁.pre I₁.vars fun vs' F₂ h₂ tk₂ u₂ rs => ?_
    obtain ⟨v, rfl, rv⟩ := one_arg rs
    have I₂ := I₁.up (tk := tk₂) u₂
    have u := u₁.trans u₂
    have ed₂ : h₂.get? d = some (listObj vs nd) := u.keep _ _ ed
    have Fd₂ := noneUp u ed Fd
    cases rv with
    | imm rv =>
    refine append_at ed₂ (fun h' hs' hD => ?_) (by rw [List.size_toArray, pd.length]; exact Nat.le_trans hlen (by decide))
    have hD' : h'.get? d = some (listObj (vs ++ [v]) (nd + 1)) := by
      rw [hD]
      show some ({ cls := .type "list", data := .seq (vs.toArray.push v) (nd + 1) } : Obj) = _
      rw [List.push_toArray]
    refine hQ .next F₂ h' tk₂ u.le (I₂.turnList ed₂ Fd₂ ad hs'.2 hD' fun m₁ hn₁ var ho => ?_) .next
    have hm := ns_fun hn₁ (hn.keeps u.keep)
    subst hm
    have ndd : d ∉ bs' := fun z => by
      rw [List.nodup_append] at hnd
      exact hnd.2.2 d z d (by simp) rfl
    have bd : b ≠ d := fun z => hnb (by rw [z]; simp)
    refine ⟨b, bs' ++ [d], n, var _ _ (hb.keeps u.keep), (hs'.2 b bd).trans (u.keep _ _ eb), noneUp u eb Fb, ab, hnb, hnd, paired_append (pairedOwn_same hs'.2 (Paired.imp (fun d l (q : OwnAt a F s.heap d l) => q.up u) hp') ndd) (.cons ⟨_, _, hD', paired_append (Paired.imp (fun _ _ r => r.mono u.le.hi) pd) (.cons rv .nil), Fd₂, ad⟩ .nil)⟩
end
end Mine
end
section
open PySem PySem.W PySem.Calls PyProof.Rows
namespace Mine
section
variable {c : Cx} {ρ : Rho} {ow : Own}
inductive WhileRun (c : Cx) (test : Expr) (body : List Stmt) : Nat → Rho → Own → Rho → Own → Prop
  | stop {n ρ ow} : EB c ρ test false → WhileRun c test body n ρ ow ρ ow
  | turn {n ρ ow ρ₁ ow₁ ρ' ow'} : EB c ρ test true → EXs c body ρ ow .next ρ₁ ow₁ → WhileRun c test body n ρ₁ ow₁ ρ' ow' → WhileRun c test body (n + 1) ρ ow ρ' ow'
theorem ex_while {test : Expr} {body : List Stmt} {pos : Pos} {n : Nat} {ρ' : Rho} {ow' : Own} (h : WhileRun c test body n ρ ow ρ' ow') : EX c (.While test body [] pos) ρ ow .next ρ' ow' := by with_unfolding_all
  intro a F s I Q E hQ
  refine wpAny_While ?_
  refine codeAny_whileLoop (fun k s' => ∃ n ρ₁ ow₁ F₁ h₁ tk₁, k = n ∧ s' = { s with heap := h₁, toks := tk₁ } ∧ LeF F F₁ ∧ Inv c a F₁ ρ₁ ow₁ s' ∧ WhileRun c test body n ρ₁ ow₁ ρ' ow') ?_ n ⟨n, ρ, ow, F, s.heap, s.toks, rfl, rfl, LeF.refl _, I, h⟩
  rintro k s' ⟨n, ρ₁, ow₁, F₁, h₁, tk₁, rfl, rfl, le₁, I₁, hw⟩
  cases hw with
  | stop ht =>
    refine ht F₁ _ I₁.pre I₁.vars _ _ fun F₂ h₂ tk₂ u₂ => ?_
    rw [if_neg (by decide)]
    exact wpAny_execs_nil (hQ .next F₂ h₂ tk₂ (le₁.trans u₂.le) (I₁.up u₂) .next)
  | turn ht hb hr =>
    refine ht F₁ _ I₁.pre I₁.vars _ _ fun F₂ h₂ tk₂ u₂ => ?_
    rw [if_pos rfl]
    refine hb a F₂ _ (I₁.up u₂) _ _ fun f F₃ h₃ tk₃ l₃ I₃ r₃ => ?_
    cases r₃
    exact ⟨_, Nat.lt_succ_self _, _, _, _, F₃, h₃, tk₃, rfl, rfl, (le₁.trans u₂.le).trans l₃, I₃, hr⟩
theorem ex_tup2 {x y : Str} {px py tp pos : Pos} {k : Nat} {e : Expr} {i j : IV} (he : EV c ρ e (.tup [i, j])) (hk : EnvOK c.env) (hx : CanStore c.env x) (hy : CanStore c.env y) (hxy : (y == x) = false) (hox : ow.name ≠ some x) (hoy : ow.name ≠ some y)
    (hs : swapsWithSole [.Tuple [.Name x px, .Name y py] k tp] e pos.line c.env = pure false) (hw : swappedStores [.Tuple [.Name x px, .Name y py] k tp] e c.env = pure none) :
    EX c (.Assign [.Tuple [.Name x px, .Name y py] k tp] e pos) ρ ow .next ((y, .imm j) :: (x, .imm i) :: ρ) ow := by with_unfolding_all
  intro a F s I Q E hQ
  refine Assign_Tuple (he F s I.pre I.vars _ _ fun v F₁ h₁ tk₁ u₁ r => ?_) hs hw
  have I₁ := I.up (tk := tk₁) u₁
  cases r with
  | @tup t vs n _ hf hp =>
    cases hp with
    | @cons v1 _ _ _ r1 hp =>
    cases hp with
    | @cons v2 _ _ _ r2 hp =>
    cases hp
    have ht : h₁.IsTuple t #[v1, v2] := ⟨_, I₁.sub _ _ hf, rfl, n, rfl⟩
    refine wpAny_assign_Tuple I.room.handled ht rfl rfl fun h₂ hx₂ => ?_
    have kp : Kp h₁ h₂ := fun b o e => hx₂ b o (fun z => by have := get_size h₁; rw [show ({ s with heap := h₁, toks := tk₁ } : Shared).heap.objs.size = h₁.objs.size from rfl] at z; rw [z, this] at e; cases e) e
    have I₂ : Inv c a F₁ ρ ow { s with heap := h₂, toks := tk₁ } := I₁.up (Up.kept I₁.sub kp I₁.hi (Nat.le_refl _))
    show wpAny _ c.A (do holding [v2] (assign (.Name x px) c.env v1); do holding [] (assign (.Name y py) c.env v2); pure ()) _ _ _
    refine wpAny_bind (wpAny_holding (wpAny_assign_Name (store_inv I₂ hk hx hox fun h₃ tk₃ hI₃ _ _ _ _ _ _ _ => ?_)))
    have I₃ := hI₃ (.imm i) (.imm r1)
    refine wpAny_bind (wpAny_holding (wpAny_assign_Name (store_inv I₃ hk hy hoy fun h₄ tk₄ hI₄ _ _ _ _ _ _ _ => wpAny_pure ?_)))
    exact hQ .next F₁ h₄ tk₄ u₁.le (hI₄ (.imm j) (.imm r2)) .next
inductive EnumRun (c : Cx) (xi xv : Str) (body : List Stmt) (ρ : Rho) (p : PV) : Nat → List IV → Prop
  | next {n : Nat} {v l} : EXs c body ((xv, .imm v) :: (xi, .int (n : Int)) :: ρ) .none .next ρ .none → EnumRun c xi xv body ρ p (n + 1) l → EnumRun c xi xv body ρ p n (v :: l)
  | ret {n : Nat} {v l ρ'} : EXs c body ((xv, .imm v) :: (xi, .int (n : Int)) :: ρ) .none (.ret p) ρ' .none → EnumRun c xi xv body ρ p n (v :: l)
theorem ex_for_enum {xi xv : Str} {pi pv pt pos cp : Pos} {k : Nat} {ae fe : Expr} {body orelse : List Stmt} {l : List IV} {p : PV} (hfe : EV c ρ fe (.val (.type "enumerate"))) (he : EV c ρ ae (.list l)) (hk : EnvOK c.env) (hxi : CanStore c.env xi) (hxv : CanStore c.env xv)
    (hp : (starEach [ae] c.env).all (fun x => !x.1) = true) (hse : starEach [ae] c.env = (false, eval ae c.env) :: starEach [] c.env)
    (hs : eval (.Call fe [ae] [] cp) c.env = (do callWith cp (← eval fe c.env) [] (backTo cp (starEach [ae] c.env)) [])) (hf : ∀ y, foldedSetIterable (.Call fe [ae] [] cp) c.env y = pure y)
    (hr : EnumRun c xi xv body ρ p 0 l) :
    EX c (.For (.Tuple [.Name xi pi, .Name xv pv] k pt) (.Call fe [ae] [] cp) body orelse pos) ρ .none (.ret p) [] .none := by with_unfolding_all
  intro a F s I Q E hQ
  refine wpAny_For ?_ hf
  rw [hs]
  refine wpAny_bind (hfe F s I.pre I.vars _ _ fun fv F₁ h₁ tk₁ u₁ r => ?_)
  obtain rfl := rv_val r
  have I₁ := I.up (tk := tk₁) u₁
  refine callWith_any (plain_args hp) (.inr (.inl ⟨_, rfl⟩)) ?_
  refine evalArgs_of (evs_cons he evs_nil hse) hp cp I₁.pre I₁.vars fun vs F₂ h₂ tk₂ u₂ rs => ⟨u₂.keep, ?_⟩
  obtain ⟨v, rfl, rv⟩ := one_arg rs
  obtain ⟨la, vs, n, rfl, hlf, hlp⟩ := rv_list rv
  have I₂ := I₁.up (tk := tk₂) u₂
  have hl₂ : h₂.get? la = some (listObj vs n) := I₂.sub _ _ hlf
  refine call_enumerate_1 (items := vs.toArray) hl₂ fun h₃ he₃ hit₃ hz₃ hk₃ => ?_
  dsimp only at he₃ hit₃ hz₃ hk₃ ⊢
  have hk₃ : Kp h₂ h₃ := hk₃
  have I₃ : Inv c a F₂ ρ .none { s with heap := h₃, toks := tk₂ } := I₂.up (Up.kept I₂.sub hk₃ I₂.hi (Nat.le_refl _))
  have sz : ∀ b, h₂.objs.size ≤ b → h₂.get? b = none := fun b hb => by
    cases e : h₂.get? b with
    | none => rfl
    | some o => exact absurd (Heap.lt_size e) (Nat.not_lt.mpr hb)
  have hlt : la < h₂.objs.size := Heap.lt_size hl₂
  generalize h₂.objs.size = it at *
  have W := WalksT.enumerate (prog := c.prog) (w := c.w) (A := c.A) I.room.handled (it + 1) it la (Nat.succ_ne_self _) (Nat.ne_of_lt (Nat.lt_succ_of_lt hlt)) (Nat.ne_of_lt hlt) vs.toArray
  refine wpAny_pyIter_enum he₃ ?_
  have newW : ∀ b ∈ [it + 1, it], h₂.get? b = none := fun b hb => by
    rcases List.mem_cons.mp hb with rfl | hb
    · exact sz _ (Nat.le_succ _)
    · rw [List.mem_singleton.mp hb]; exact sz _ (Nat.le_refl _)
  have hwF : ∀ b ∈ [it + 1, it], F₂.f b = none := fun b hb => by
    cases e : F₂.f b with
    | none => rfl
    | some o => have := newW b hb; rw [show h₂.get? b = some o from I₂.sub b o e] at this; cases this
  have hw0 : ∀ b ∈ [it + 1, it], a.h0 b = none := fun b hb => by
    cases e : a.h0 b with
    | none => rfl
    | some o => have := newW b hb; rw [show h₂.get? b = some o from I₂.keep b o e] at this; cases this
  have hfp : ∀ b ∈ [it + 1, it, la], (b ∈ [it + 1, it] ∨ ∃ o, F₂.f b = some o) ∧ (h₃.get? b).isSome = true := fun b hb => by
    rcases List.mem_cons.mp hb with rfl | hb
    · exact ⟨.inl (by simp), by rw [show h₃.get? (it + 1) = some _ from he₃]; rfl⟩
    · rcases List.mem_cons.mp hb with rfl | hb
      · obtain ⟨o, e, _⟩ := hit₃; exact ⟨.inl (by simp), by rw [e]; rfl⟩
      · rw [List.mem_singleton.mp hb]; exact ⟨.inr ⟨_, hlf⟩, by rw [hk₃ _ _ hl₂]; rfl⟩
  have I₄ : Inv c ⟨a.g, extH a.h0 [it + 1, it, la] h₃, F₂⟩ F₂ ρ .none { s with heap := h₃, toks := tk₂ } := I₂.grow (s := { s with heap := h₂, toks := tk₂ }) hk₃ (Nat.le_refl _) fun b hb => by
    rcases (hfp b hb).1 with q | q
    · exact .inl (newW b q)
    · exact .inr q
  let St : Nat → Heap → Prop := fun i h => (∃ old, IsEnum h (it + 1) it i old) ∧ h.IsListIter it la i ∧ h.IsList la vs.toArray
  have alive : ∀ i h, St i h → ∀ b ∈ [it + 1, it], (h.get? b).isSome = true := fun i h ⟨⟨old, x⟩, ⟨o, y, _⟩, _⟩ b hb => by
    rcases List.mem_cons.mp hb with rfl | hb
    · rw [show h.get? (it + 1) = some _ from x]; rfl
    · rw [List.mem_singleton.mp hb, y]; rfl
  refine codeAny_forLoop_any (fun kk s' => ∃ h tk F' i, s' = { s with heap := h, toks := tk } ∧ Inv c ⟨a.g, extH a.h0 [it + 1, it, la] h, F'⟩ F' ρ .none s' ∧ LeF F₂ F' ∧ (∀ x o, F'.f x = some o → a.F0.f x = some o ∨ a.h0 x = none) ∧ St i h ∧ (∀ b o, a.h0 b = some o → h.get? b = some o) ∧
    (∀ b ∈ [it + 1, it, la], (h.get? b).isSome = true) ∧ (∀ b ∈ [it + 1, it], F'.f b = none) ∧ EnumRun c xi xv body ρ p i (l.drop i) ∧ kk = l.length + 1 - i) ?_ (l.length + 1)
    ⟨h₃, tk₂, F₂, 0, rfl, I₄, LeF.refl _, I₂.new, ⟨⟨_, he₃⟩, hit₃, ⟨_, hk₃ _ _ hl₂, rfl, n, rfl⟩⟩, fun b o e => hk₃ _ _ (I₂.keep b o e), fun b hb => (hfp b hb).2, hwF, by simpa using hr, rfl⟩
  rintro kk s' ⟨h, tk, F', i, rfl, Ii, hle, hnew, hst, hsub0, hfs, hwF', hrun, rfl⟩
  have hlen := hlp.length
  obtain ⟨q, hq⟩ : ∃ q, l.drop i = q :: l.drop (i + 1) ∧ l[i]? = some q := by
    cases hd : l.drop i with
    | nil => rw [hd] at hrun; cases hrun
    | cons q r =>
      have hi : i < l.length := by
        rcases Nat.lt_or_ge i l.length with h | h
        · exact h
        · rw [List.drop_eq_nil_of_le h] at hd; cases hd
      rw [List.drop_eq_getElem_cons hi] at hd
      refine ⟨q, ?_, ?_⟩
      · injection hd with h1 h2; rw [h2]
      · injection hd with h1 h2; rw [← h1]; exact List.getElem?_eq_getElem hi
  obtain ⟨hd, hq⟩ := hq
  have hlt' : i < l.length := by
    rcases Nat.lt_or_ge i l.length with h | h
    · exact h
    · rw [List.getElem?_eq_none h] at hq; cases hq
  have shr : ∀ {F'' : PM} {ρx : Rho} {owx : Own} {h' : Heap} {tk' : Nat} {hh : Heap}, Inv c ⟨a.g, extH a.h0 [it + 1, it, la] hh, F'⟩ F'' ρx owx { s with heap := h', toks := tk' } → (∀ b o, a.h0 b = some o → hh.get? b = some o) → Inv c a F'' ρx owx { s with heap := h', toks := tk' } := fun J hh0 =>
    J.shrink (fun b o e => by
      unfold extH; split
      · exact hh0 b o e
      · exact e) ((I.le.trans (u₁.le.trans u₂.le)).trans hle) hnew I.g0
  refine wpAny_with_toks (Nat.le_refl _) (W.item i _ _ _ (by rw [List.size_toArray]; omega) hst fun T vals h₅ tk₅ hPv hT hTt hmid hk₅ (ht₅ : tk ≤ tk₅) => ?_)
  obtain ⟨t, x, hx, rfl⟩ := hPv
  have hx' : vs[i]? = some x := by simpa using hx
  obtain ⟨q', hq', rq⟩ := paired_get' hlp i x hx'
  rw [hq] at hq'; cases hq'
  have I₅ : Inv c ⟨a.g, extH a.h0 [it + 1, it, la] h₅, F'⟩ F' ρ .none { s with heap := h₅, toks := tk₅ } :=
    Inv.step (a := a) (s := { s with heap := h, toks := tk }) Ii hk₅ W.sub hfs hwF' hsub0 ht₅ hw0 I.g0
  have midAlive : ∀ b ∈ [it + 1, it, la], (h₅.get? b).isSome = true := fun b hb => by
    obtain ⟨⟨x, y⟩, ⟨o, z, _⟩, ⟨o', z', _⟩, _⟩ := hmid
    rcases List.mem_cons.mp hb with rfl | hb
    · rw [show h₅.get? (it + 1) = some _ from y]; rfl
    · rcases List.mem_cons.mp hb with rfl | hb
      · rw [z]; rfl
      · rw [List.mem_singleton.mp hb, z']; rfl
  have hsub₅ : ∀ b o, a.h0 b = some o → h₅.get? b = some o := fun b o e => hk₅ b o (fun hb => by rw [hw0 b hb] at e; cases e) (hsub0 b o e)
  refine W.go _ _ _ i T _ _ _ hmid fun h₆ hst₆ hk₆ => ?_
  have I₆ : Inv c ⟨a.g, extH a.h0 [it + 1, it, la] h₆, F'⟩ F' ρ .none { s with heap := h₆, toks := tk₅ } :=
    Inv.step (a := a) (s := { s with heap := h₅, toks := tk₅ }) I₅ hk₆ W.sub midAlive hwF' hsub₅ (Nat.le_refl _) hw0 I.g0
  have hT₆ : h₆.IsTuple T #[.int i t, x] := hTt.at fun o e => hk₆ T o (W.apart _ _ _ hmid) e
  have hfs₆ : ∀ b ∈ [it + 1, it, la], (h₆.get? b).isSome = true := fun b hb => by
    by_cases hbw : b ∈ [it + 1, it]
    · exact alive _ _ hst₆ b hbw
    · obtain ⟨o, e⟩ := Option.isSome_iff_exists.mp (midAlive b hb)
      rw [hk₆ b o hbw e]; rfl
  have hsub₆ : ∀ b o, a.h0 b = some o → h₆.get? b = some o := fun b o e => hk₆ b o (fun hb => by rw [hw0 b hb] at e; cases e) (hsub₅ b o e)
  refine wpAny_assign_Tuple I.room.handled hT₆ rfl rfl fun h₇ hx₇ => ?_
  have kp : Kp h₆ h₇ := fun b o e => hx₇ b o (fun z => by have := get_size h₆; rw [show ({ s with heap := h₆, toks := tk₅ } : Shared).heap.objs.size = h₆.objs.size from rfl] at z; rw [z, this] at e; cases e) e
  have I₇ : Inv c ⟨a.g, extH a.h0 [it + 1, it, la] h₆, F'⟩ F' ρ .none { s with heap := h₇, toks := tk₅ } := I₆.up (Up.kept I₆.sub kp I₆.hi (Nat.le_refl _))
  show wpAny _ c.A (do holding [x] (assign (.Name xi pi) c.env (.int i t)); do holding [] (assign (.Name xv pv) c.env x); pure ()) _ _ _
  refine wpAny_bind (wpAny_holding (wpAny_assign_Name (store_inv I₇ hk hxi (by simp [Own.name]) fun h₈ tk₈ hI₈ _ _ _ _ _ _ _ => ?_)))
  have I₈ := hI₈ (.int i) (.imm (.int _ _))
  refine wpAny_bind (wpAny_holding (wpAny_assign_Name (store_inv I₈ hk hxv (by simp [Own.name]) fun h₉ tk₉ hI₉ _ _ _ _ _ _ _ => wpAny_pure ?_)))
  have I₉ := hI₉ (.imm q) (.imm (rq.mono hle.hi))
  rw [hd] at hrun
  cases hrun with
  | next hb hrest =>
    refine hb _ F' _ I₉ _ _ fun f Fx hx tkx lex Ix rx => ?_
    cases rx
    have keepx : ∀ b ∈ [it + 1, it, la], hx.get? b = h₆.get? b := fun b hb => by
      obtain ⟨o, e⟩ := Option.isSome_iff_exists.mp (hfs₆ b hb)
      rw [e]
      exact Ix.keep b o (by show extH a.h0 _ h₆ b = some o; unfold extH; rw [if_pos hb]; exact e)
    have same : extH a.h0 [it + 1, it, la] hx = extH a.h0 [it + 1, it, la] h₆ := by
      funext b; unfold extH; split
      · rename_i hb; exact keepx b hb
      · rfl
    have nw := (shr Ix hsub₆).new
    refine ⟨l.length + 1 - (i + 1), by omega, hx, tkx, Fx, i + 1, rfl, ?_, hle.trans lex, nw, W.frame _ _ _ hst₆ fun b hb o e => (keepx b hb).trans e, (shr Ix hsub₆).keep, fun b hb => by rw [keepx b hb]; exact hfs₆ b hb, fun b hb => ?_, hrest, rfl⟩
    · rw [same]; exact Ix.rebase
    · cases e : Fx.f b with
      | none => rfl
      | some o =>
        rcases Ix.new b o e with z | z
        · have z' : F'.f b = some o := z
          rw [hwF' b hb] at z'; cases z'
        · have z' : extH a.h0 [it + 1, it, la] h₆ b = none := z
          unfold extH at z'; rw [if_pos (W.sub b hb)] at z'
          have := hfs₆ b (W.sub b hb); rw [z'] at this; cases this
  | ret hb =>
    refine hb _ F' _ I₉ _ _ fun f Fx hx tkx lex Ix rx => ?_
    cases rx with
    | ret rr => exact hQ _ Fx hx tkx (((u₁.le.trans u₂.le).trans hle).trans lex) ((shr Ix hsub₆).weak fun _ _ e => by simp at e) (.ret rr)
end
end Mine
end
section
open PySem PySem.W PySem.Calls PyProof.Rows PySem.Builtin PySem.Builtin.Str PySem.Spec PySem.SeqAt
namespace Mine
section
variable {c : Cx} {ρ : Rho}
theorem paired_strs {hi : Nat} : ∀ {vs : List Value} {ys : List Str}, Paired (IR hi) vs (ys.map IV.str) → ∃ l : List (Str × Tok), vs = strValues l ∧ l.map (·.1) = ys
  | _, [], .nil => ⟨[], rfl, rfl⟩
  | _, y :: ys, .cons h t => by
    obtain ⟨l, e1, e2⟩ := paired_strs t
    cases h with
    | str _ u => exact ⟨(y, u) :: l, by rw [e1]; rfl, by rw [← e2]; rfl⟩
theorem paired_of_strs {hi : Nat} : ∀ (l : List (Str × Tok)), Paired (IR hi) (strValues l) ((l.map (·.1)).map IV.str)
  | [] => .nil
  | (x, t) :: l => .cons (.str x t) (paired_of_strs l)
theorem meth_join {x : Str} {ys : List Str} (hok : (ys.map (·.length)).sum + ys.length * x.length ≤ 16777216) : MethOK c "join" (.str x) [.strs ys] (.str (Txt.join x ys)) := by
  refine ⟨"str", _, PySem.F.plainAttrs_str, PySem.F.slot_str_join, PySem.F.type_str_join, fun F s va P ra => ?_⟩
  obtain ⟨t, rfl⟩ := rv_str ra
  refine ⟨typeIs_str s x t, (fun a e => nomatch e), fun vs rs Q E hQ => ?_⟩
  obtain ⟨v, rfl, r⟩ := one_arg rs
  obtain ⟨a, vs, n, rfl, hf, hp⟩ := rv_list r
  obtain ⟨l, rfl, rfl⟩ := paired_strs hp
  have hok' := joinOk_of hok
  unfold JoinOk at hok'
  rw [Bool.not_eq_true'] at hok'
  refine call_meets PySem.F.slot_str_join (typeIs_str _ _ _) PySem.F.entry_str_join (PySem.F.args_str_join_2 _ _) (meets_str_join_list x t a l hok') ⟨⟨_, P.sub _ _ hf, rfl, n, rfl⟩, ?_⟩
  have len := joinFit_length hok'
  match l, hQ, len with
  | [], hQ, len => exact ⟨len, hQ.tick P 1 (.imm (.str _ _))⟩
  | [p], hQ, len => exact hQ.same P (.imm (.str _ _))
  | _ :: _ :: _, hQ, len => exact ⟨len, hQ.tick P 1 (.imm (.str _ _))⟩
theorem meth_join_new {x : Str} {ys : List Str} (hok : (ys.map (·.length)).sum + ys.length * x.length ≤ 16777216) (h1 : ys.length ≠ 1) : MethOK c "join" (.str x) [.strs ys] (.imm (.strN (Txt.join x ys) c.lo)) := by
  refine ⟨"str", _, PySem.F.plainAttrs_str, PySem.F.slot_str_join, PySem.F.type_str_join, fun F s va P ra => ?_⟩
  obtain ⟨t, rfl⟩ := rv_str ra
  refine ⟨typeIs_str s x t, (fun a e => nomatch e), fun vs rs Q E hQ => ?_⟩
  obtain ⟨v, rfl, r⟩ := one_arg rs
  obtain ⟨a, vs, n, rfl, hf, hp⟩ := rv_list r
  obtain ⟨l, rfl, rfl⟩ := paired_strs hp
  have hok' := joinOk_of hok
  unfold JoinOk at hok'
  rw [Bool.not_eq_true'] at hok'
  refine call_meets PySem.F.slot_str_join (typeIs_str _ _ _) PySem.F.entry_str_join (PySem.F.args_str_join_2 _ _) (meets_str_join_list x t a l hok') ⟨⟨_, P.sub _ _ hf, rfl, n, rfl⟩, ?_⟩
  have len := joinFit_length hok'
  match l, hQ, len, h1 with
  | [], hQ, len, _ => exact ⟨len, hQ.newStrN P⟩
  | [p], _, _, h1 => exact absurd rfl h1
  | _ :: _ :: _, hQ, len, _ => exact ⟨len, hQ.newStrN P⟩
theorem numbered_pair {hi lo : Nat} (h0 : 0 < lo) : ∀ (tk : Nat) (ys : List Str), lo ≤ tk → Paired (IR hi) (strsFrom tk ys) (ys.map fun y => IV.strN y lo)
  | _, [], _ => .nil
  | tk, y :: ys, h => .cons (.strN y tk lo h0 h) (numbered_pair h0 (tk + 1) ys (Nat.le_succ_of_le h))
theorem numbered_pair' {hi : Nat} : ∀ (tk : Nat) (ys : List Str), Paired (IR hi) (strsFrom tk ys) (ys.map IV.str)
  | _, [] => .nil
  | tk, y :: ys => .cons (.str y tk) (numbered_pair' (tk + 1) ys)
theorem split_eq {x y : Str} (h1 : (decide (x.length < y.length) || decide (strKind x < strKind y)) = false) (hf : (occurrences x y 0 x.length (x.length + 1)).isEmpty = false) : Txt.split x y = partsBetween x (occurrences x y 0 x.length (x.length + 1)) y.length :=
  (if_neg (ne_true_of_eq_false h1)).trans (if_neg (ne_true_of_eq_false hf))
theorem split_self1 {x y : Str} (h1 : (decide (x.length < y.length) || decide (strKind x < strKind y)) = true) : Txt.split x y = [x] := if_pos h1
theorem split_self2 {x y : Str} (h1 : (decide (x.length < y.length) || decide (strKind x < strKind y)) = false) (hf : (occurrences x y 0 x.length (x.length + 1)).isEmpty = true) : Txt.split x y = [x] :=
  (if_neg (ne_true_of_eq_false h1)).trans (if_pos hf)
theorem meth_split {x y : Str} (hy : (y.length == 0) = false) (hx : x.length ≤ 100000) (hn : (Txt.split x y).length ≤ 100000) : MethOK c "split" (.str x) [.str y] (.strs (Txt.split x y)) := by
  refine ⟨"str", _, PySem.F.plainAttrs_str, PySem.F.slot_str_split, PySem.F.type_str_split, fun F s va P ra => ?_⟩
  obtain ⟨t, rfl⟩ := rv_str ra
  refine ⟨typeIs_str s x t, (fun a e => nomatch e), fun vs rs Q E hQ => ?_⟩
  obtain ⟨v, rfl, r⟩ := one_arg rs
  obtain ⟨u, rfl⟩ := rv_str r
  have big : 100000 ≤ sizeLine := by decide
  cases h1 : (decide (x.length < y.length) || decide (strKind x < strKind y))
  · cases hf : (occurrences x y 0 x.length (x.length + 1)).isEmpty
    · rw [split_eq h1 hf] at hn hQ
      refine call_meets PySem.F.slot_str_split (typeIs_str _ _ _) PySem.F.entry_str_split (PySem.F.args_str_split_2 _ _) (meets_str_split_sep x y t u h1 hy hf (Nat.le_trans hx big) (Nat.le_trans hn big)) ?_
      exact hQ _ _ _ _ (Up.push P.sub (listObj _ 0) P.hi (Nat.le_add_right _ _)) (.list (addF_self _ _ _) (numbered_pair' _ _))
    · rw [split_self2 h1 hf] at hQ
      exact call_meets PySem.F.slot_str_split (typeIs_str _ _ _) PySem.F.entry_str_split (PySem.F.args_str_split_2 _ _) (meets_str_split_not_found x y t u h1 hy hf) (hQ.push P (listObj [.str x t] 0) (.list (addF_self _ _ _) (.cons (.str _ _) .nil)))
  · rw [split_self1 h1] at hQ
    exact call_meets PySem.F.slot_str_split (typeIs_str _ _ _) PySem.F.entry_str_split (PySem.F.args_str_split_2 _ _) (meets_str_split_cannot_occur x y t u h1) (hQ.push P (listObj [.str x t] 0) (.list (addF_self _ _ _) (.cons (.str _ _) .nil)))
theorem meth_split_new {x y : Str} (hy : (y.length == 0) = false) (hx : x.length ≤ 100000) (hn : (Txt.split x y).length ≤ 100000) : MethOK c "split" (.imm (.strN x c.lo)) [.str y] (.list ((Txt.split x y).map fun z => .strN z c.lo)) := by
  refine ⟨"str", _, PySem.F.plainAttrs_str, PySem.F.slot_str_split, PySem.F.type_str_split, fun F s va P ra => ?_⟩
  obtain ⟨t, rfl, ht⟩ : ∃ t, va = .str x t ∧ c.lo ≤ t := by
    cases ra with | imm h => cases h with | strN _ t _ _ h => exact ⟨t, rfl, h⟩
  refine ⟨typeIs_str s x t, (fun a e => nomatch e), fun vs rs Q E hQ => ?_⟩
  obtain ⟨v, rfl, r⟩ := one_arg rs
  obtain ⟨u, rfl⟩ := rv_str r
  have big : 100000 ≤ sizeLine := by decide
  cases h1 : (decide (x.length < y.length) || decide (strKind x < strKind y))
  · cases hf : (occurrences x y 0 x.length (x.length + 1)).isEmpty
    · rw [split_eq h1 hf] at hn hQ
      refine call_meets PySem.F.slot_str_split (typeIs_str _ _ _) PySem.F.entry_str_split (PySem.F.args_str_split_2 _ _) (meets_str_split_sep x y t u h1 hy hf (Nat.le_trans hx big) (Nat.le_trans hn big)) ?_
      exact hQ _ _ _ _ (Up.push P.sub (listObj _ 0) P.hi (Nat.le_add_right _ _)) (.list (addF_self _ _ _) (numbered_pair P.lo0 _ _ P.lo))
    · rw [split_self2 h1 hf] at hQ
      exact call_meets PySem.F.slot_str_split (typeIs_str _ _ _) PySem.F.entry_str_split (PySem.F.args_str_split_2 _ _) (meets_str_split_not_found x y t u h1 hy hf) (hQ.push P (listObj [.str x t] 0) (.list (addF_self _ _ _) (.cons (.strN _ _ _ P.lo0 ht) .nil)))
  · rw [split_self1 h1] at hQ
    exact call_meets PySem.F.slot_str_split (typeIs_str _ _ _) PySem.F.entry_str_split (PySem.F.args_str_split_2 _ _) (meets_str_split_cannot_occur x y t u h1) (hQ.push P (listObj [.str x t] 0) (.list (addF_self _ _ _) (.cons (.strN _ _ _ P.lo0 ht) .nil)))
theorem meth_lower {x : Str} (h : (Txt.lower x).length ≤ 100000) : MethOK c "lower" (.str x) [] (.imm (.strC (Txt.lower x))) := by
  refine ⟨"str", _, PySem.F.plainAttrs_str, PySem.F.slot_str_lower, PySem.F.type_str_lower, fun F s va P ra => ?_⟩
  obtain ⟨t, rfl⟩ := rv_str ra
  refine ⟨typeIs_str s x t, (fun a e => nomatch e), fun vs rs Q E hQ => ?_⟩
  cases rs
  have big : 100000 ≤ sizeLine := by decide
  have hz : tooLong (placed x fun i _ => Unicode.lowerAt x.cps i).size = false := by
    unfold tooLong
    have h' : (placed x fun i _ => Unicode.lowerAt x.cps i).size ≤ 100000 := h
    rw [decide_eq_false (by omega)]
  exact call_gives PySem.F.slot_str_lower (typeIs_str s x t) PySem.F.entry_str_lower (PySem.F.args_str_lower_1 _) (gives_str_lower x t hz) ⟨Nat.le_trans h big, hQ.newStr P⟩
noncomputable def dotsS (n : Nat) : Str := ⟨(List.replicate n 46).toArray⟩
theorem replicate_fold (n : Nat) (a : Nat) : ∀ acc : Array Nat, (List.replicate n (#[a] : Array Nat)).foldl (· ++ ·) acc = acc ++ (List.replicate n a).toArray := by
  induction n with
  | zero => intro acc; simp
  | succ n ih =>
    intro acc
    rw [List.replicate_succ, List.foldl_cons, ih, List.replicate_succ]
    apply Array.ext'
    simp
theorem bin_mul_dots {n : Nat} (h1 : 1 ≤ n) (h2 : n ≤ 100000) : BinOK c .Mult (.str ⟨#[46]⟩) (.int (n : Int)) (.str (dotsS n)) := by with_unfolding_all
  intro F s va vb P ra rb Q E hQ
  obtain ⟨t, rfl⟩ := rv_str ra; obtain ⟨u, rfl⟩ := rv_int rb
  have big : 100000 ≤ sizeLine := by decide
  have l1 : (⟨#[46]⟩ : Str).length = 1 := rfl
  refine PySem.P.mul_str (by rw [decide_eq_false (by omega), decide_eq_false (by omega)]; rfl) (fun _ _ => ?_) (fun _ _ => ?_) ?_
  · rw [l1]
    have : (1 : Int) ≤ (2 ^ 63 - 1) / (n : Int) := by
      rw [Int.le_ediv_iff_mul_le (by omega)]; omega
    omega
  · rw [l1, Nat.one_mul, Int.toNat_natCast]
    unfold tooLong
    rw [decide_eq_false (by omega)]
  · rw [if_neg (by omega)]
    split
    · rename_i h
      rw [l1] at h
      have hn : n = 1 := by simp at h; omega
      subst hn
      exact hQ.same P (.imm (.str _ _))
    · refine ⟨?_, ?_⟩
      · rw [Int.toNat_natCast, replicate_fold]
        show ((#[] : Array Nat) ++ (List.replicate n 46).toArray).size ≤ sizeLine
        simp; omega
      · rw [Int.toNat_natCast, replicate_fold]
        have e : (⟨(#[] : Array Nat) ++ (List.replicate n 46).toArray⟩ : Str) = dotsS n := by unfold dotsS; simp
        rw [e]
        exact hQ.tick P 1 (.imm (.str _ _))
theorem bin_mul_list2 {l : List IV} (hl : l.length ≤ 100000) : BinOK c .Mult (.list l) (.int 2) (.list (l ++ l)) := by with_unfolding_all
  intro F s va vb P ra rb Q E hQ
  obtain ⟨a, vs, n, rfl, hf, hp⟩ := rv_list ra
  obtain ⟨u, rfl⟩ := rv_int rb
  have ho := P.sub _ _ hf
  have hsz : vs.toArray.size = l.length := by rw [List.size_toArray, hp.length]
  refine wpAny_binaryOp_repeat_ref (T := "list") (U := "int") (by decide) ⟨_, ho, rfl⟩ (fun s' => typeIs_int s' 2 u) noFill_list_mul PySem.F.fills_int_mul PySem.F.slot_int_rmul repeat_list PySem.F.slot_int_index.lookup
    (call_meets PySem.F.slot_int_rmul (typeIs_int s 2 u) PySem.F.entry_int_rmul (PySem.F.args_int_rmul_2 _ _) (int___rmul___int_list 2 u a vs.toArray n)
      ⟨ho, rfl, ⟨_, ho, rfl⟩, call_meets PySem.F.slot_list_mul ⟨_, ho, rfl⟩ PySem.F.entry_list_mul (PySem.F.args_list_mul_2 _ _)
        (AutoListH.list___mul___list_int_3 a vs.toArray n 2 u (by simp [Builtin.List.listFitsIndex]) (by rw [hsz]; simp; omega) (by rw [hsz]; simp [Builtin.List.listTooLong, sizeLine]; omega))
        ⟨ho, ?_⟩⟩)
  have e : (List.foldl (fun x1 x2 => x1 ++ x2) #[] (List.replicate (if vs.toArray.isEmpty = true then 0 else (2 : Int).toNat) vs.toArray)) = (vs ++ vs).toArray := by
    cases vs with
    | nil => rfl
    | cons v vs => simp [List.replicate]
  rw [e]
  exact hQ.push P (listObj (vs ++ vs) 0) (.list (addF_self _ _ _) (paired_append hp hp))
theorem bin_pow2 {k : Nat} (hk : k ≤ 1000) : BinOK c .Pow (.int 2) (.int (k : Int)) (.int (2 ^ k)) := by with_unfolding_all
  intro F s va vb P ra rb Q E hQ
  obtain ⟨t, rfl⟩ := rv_int ra; obtain ⟨u, rfl⟩ := rv_int rb
  refine pow_int_small (by omega) (by omega) (by decide) ?_
  rw [Int.toNat_natCast]
  exact hQ.tick P 1 (.imm (.int _ _))
noncomputable def dataOf : IV → PyData
  | .none => .none
  | .bool b => .bool b
  | .int i => .int i
  | .str x => .str x
  | .strC x => .str x
  | .strB x _ => .str x
  | .strN x _ => .str x
theorem reads_imm {hi : Nat} {h : Heap} {v : Value} {i : IV} (r : IR hi v i) : Reads h v (dataOf i) [] := by
  cases r with
  | none => exact .none
  | bool b => exact .bool b
  | int i t => exact .int i t
  | str x t => exact .str x t
  | strC x t => exact .str x t
  | strB x t => exact .str x t
  | strN x t => exact .str x t
theorem reads_all {hi : Nat} {h : Heap} : ∀ {vs : List Value} {l : List IV}, Paired (IR hi) vs l → ReadsAll h vs (l.map dataOf) []
  | _, _, .nil => .nil
  | _, _, .cons a t => ReadsAll.cons (as := []) (bs := []) (reads_imm a) (reads_all t)
theorem reads_list {F : PM} {s : Shared} (P : Pre c F s) {v : Value} {l : List IV} (r : RV F v (.list l)) : ∃ as, Reads s.heap v (.list (l.map dataOf)) as := by
  obtain ⟨a, vs, n, rfl, hf, hp⟩ := rv_list r
  exact ⟨_, .list (P.sub _ _ hf) rfl rfl (by simpa using reads_all hp)⟩
theorem dataOf_strs (ys : List Str) : (ys.map IV.str).map dataOf = ys.map PyData.str := by rw [List.map_map]; rfl
theorem dataOf_ints (ys : List Int) : (ys.map IV.int).map dataOf = ys.map PyData.int := by rw [List.map_map]; rfl
theorem canLay_strs : ∀ (ys : List Str), (∀ y ∈ ys, PyData.strOk y = true) → PyData.canLayAll0 (ys.map PyData.str) = true
  | [], _ => by simp [PyData.canLayAll0]
  | y :: ys, h => by
    rw [List.map_cons, PyData.canLayAll0, PyData.canLay0, h y List.mem_cons_self, canLay_strs ys fun z hz => h z (List.mem_cons_of_mem _ hz)]; rfl
theorem canLay_ints : ∀ (ys : List Int), PyData.canLayAll0 (ys.map PyData.int) = true
  | [] => by simp [PyData.canLayAll0]
  | y :: ys => by rw [List.map_cons, PyData.canLayAll0, PyData.canLay0, canLay_ints ys]; rfl
theorem depth_flat {f : α → PyData} (hf : ∀ a, PyData.depth (f a) ≤ 2) : ∀ l : List α, PyData.depthAll (l.map f) ≤ 2
  | [] => by simp [PyData.depthAll]
  | a :: l => by
    rw [List.map_cons, PyData.depthAll]
    have h1 := hf a; have h2 := depth_flat hf l
    omega
theorem shaped_strs {ws : List Str} (h : ∀ y ∈ ws, PyData.strOk y = true) : SeqAt.shaped (.list (ws.map PyData.str)) = true := by
  unfold SeqAt.shaped
  rw [PyData.canLay0, canLay_strs ws h, PyData.depth]
  have := depth_flat (f := PyData.str) (fun a => by simp [PyData.depth]) ws
  simp; omega
theorem shaped_ints (ws : List Int) : SeqAt.shaped (.list (ws.map PyData.int)) = true := by
  unfold SeqAt.shaped
  rw [PyData.canLay0, canLay_ints ws, PyData.depth]
  have := depth_flat (f := PyData.int) (fun a => by simp [PyData.depth]) ws
  simp; omega
theorem noMix_strs : ∀ ys zs : List Str, noMixAll (ys.map PyData.str) (zs.map PyData.str) = true
  | [], [] => by simp [noMixAll]
  | [], _ :: _ => by simp [noMixAll]
  | _ :: _, [] => by simp [noMixAll]
  | y :: ys, z :: zs => by rw [List.map_cons, List.map_cons, noMixAll, noMix, noMix_strs ys zs]; rfl
theorem noMix_ints : ∀ ys zs : List Int, noMixAll (ys.map PyData.int) (zs.map PyData.int) = true
  | [], [] => by simp [noMixAll]
  | [], _ :: _ => by simp [noMixAll]
  | _ :: _, [] => by simp [noMixAll]
  | y :: ys, z :: zs => by rw [List.map_cons, List.map_cons, noMixAll, noMix, noMix_ints ys zs]; rfl
theorem same_strs (ys zs : List Str) : Spec.same (.list (ys.map PyData.str)) (.list (zs.map PyData.str)) = decide (ys = zs) := by
  rw [Spec.same]
  exact sameAll_map (fun a b => by rw [Spec.same]; by_cases h : a = b <;> simp [h]) ys zs
theorem same_ints (ys zs : List Int) : Spec.same (.list (ys.map PyData.int)) (.list (zs.map PyData.int)) = decide (ys = zs) := by
  rw [Spec.same]
  exact sameAll_map (fun a b => by rw [Spec.same]; by_cases h : a = b <;> simp [h]) ys zs
theorem cmp_ne_strs {ys zs : List Str} (hy : ∀ y ∈ ys, PyData.strOk y = true) (hz : ∀ y ∈ zs, PyData.strOk y = true) : CmpOK c .NotEq (.strs ys) (.strs zs) (.bool (!decide (ys = zs))) := by with_unfolding_all
  intro F s va vb P ra rb Q E hQ
  obtain ⟨as, r1⟩ := reads_list P ra
  obtain ⟨bs, r2⟩ := reads_list P rb
  rw [dataOf_strs] at r1 r2
  refine ne_dataH_same r1 r2 (shaped_strs hy) (shaped_strs hz) (by have := P.room.units; omega) (by rw [noMix]; exact noMix_strs _ _) ?_
  rw [same_strs]
  exact hQ.same P (.imm (.bool _))
theorem cmp_ne_ints {ys zs : List Int} : CmpOK c .NotEq (.ints ys) (.ints zs) (.bool (!decide (ys = zs))) := by with_unfolding_all
  intro F s va vb P ra rb Q E hQ
  obtain ⟨as, r1⟩ := reads_list P ra
  obtain ⟨bs, r2⟩ := reads_list P rb
  rw [dataOf_ints] at r1 r2
  refine ne_dataH_same r1 r2 (shaped_ints _) (shaped_ints _) (by have := P.room.units; omega) (by rw [noMix]; exact noMix_ints _ _) ?_
  rw [same_ints]
  exact hQ.same P (.imm (.bool _))
theorem isSame_ne {M : Model} {A : Around} {E : Value → Shared → Prop} {s : Shared} {y z : Str} {u v : Tok} {Q : Bool → Shared → Prop} (h0 : (u == 0 || v == 0) = false) (huv : (u == v) = false) (hyz : (y == z) = false) (hq : Q false s) : wpAny M A (isSame (.str y u) (.str z v)) Q E s := by
  rw [isSame_str_other y z u v h0 huv hyz]
  exact wpAny_pure hq
theorem eqS_iff {x y : Str} : eqS x y = (x == y) := by
  unfold eqS
  by_cases h : x = y
  · subst h; simp
  · rw [show (x == y) = false from beq_eq_false_iff_ne.mpr h]
    refine beq_eq_false_iff_ne.mpr fun e => h ?_
    obtain ⟨a⟩ := x; obtain ⟨b⟩ := y
    exact congrArg Str.mk (Array.toList_inj.mp e)
theorem eb_is_or_eq {l r l' r' : Expr} {p1 p2 pos : Pos} {x y : Str} {T : Nat} (hl : EV c ρ l (.imm (.strN x T))) (hr : EV c ρ r (.imm (.strB y T))) (hl' : EV c ρ l' (.str x)) (hr' : EV c ρ r' (.str y))
    (hm : behindInMarks .Is r = false) (hm' : behindInMarks .Eq r' = false) :
    EB c ρ (.BoolOp .Or [.Compare l [.Is] [r] p1, .Compare l' [.Eq] [r'] p2] pos) (eqS x y) := by with_unfolding_all
  intro F s P V Q E hQ
  show wpAny _ _ (allTrue .Or [.Compare l [.Is] [r] p1, .Compare l' [.Eq] [r'] p2] c.env) Q E s
  unfold allTrue
  refine wpAny_bind (wpAny_isTrue_Compare1 ?_ hm)
  refine hl F s P V _ _ fun va F₁ h₁ tk₁ u₁ ra => ?_
  refine hr F₁ _ (P.up u₁) (V.up u₁) _ _ fun vb F₂ h₂ tk₂ u₂ rb => ?_
  obtain ⟨t, rfl, hT, ht⟩ : ∃ t, va = .str x t ∧ 0 < T ∧ T ≤ t := by cases ra with | imm h => cases h with | strN _ t _ h0 h => exact ⟨t, rfl, h0, h⟩
  obtain ⟨u, rfl, hu, hu'⟩ : ∃ u, vb = .str y u ∧ 0 < u ∧ u < T := by cases rb with | imm h => cases h with | strB _ t _ h0 h => exact ⟨t, rfl, h0, h⟩
  have h0 : (t == 0 || u == 0) = false := by
    rw [Bool.or_eq_false_iff]; exact ⟨beq_eq_false_iff_ne.mpr (Nat.ne_of_gt (Nat.lt_of_lt_of_le hT ht)), beq_eq_false_iff_ne.mpr (Nat.ne_of_gt hu)⟩
  have htu : (t == u) = false := beq_eq_false_iff_ne.mpr (Nat.ne_of_gt (Nat.lt_of_lt_of_le hu' ht))
  have P₂ := (P.up (tk := tk₁) u₁).up (tk := tk₂) u₂
  have V₂ := (V.up (tk := tk₁) u₁).up (tk := tk₂) u₂
  have second : wpAny (model c.prog c.w) c.A (allTrue .Or [.Compare l' [.Eq] [r'] p2] c.env) Q E { s with heap := h₂, toks := tk₂ } := by
    have e2 : EB c ρ (.BoolOp .Or [.Compare l' [.Eq] [r'] p2] pos) (eqS x y || false) := eb_or_cons (eb_cmp hl' hr' cmp_eq_str hm') fun _ => eb_or_nil
    rw [Bool.or_false] at e2
    exact e2 F₂ _ P₂ V₂ Q E fun F' h' tk' u' => hQ F' h' tk' ((u₁.trans u₂).trans u')
  show wpAny _ _ (isSame (.str x t) (.str y u) >>= _) _ _ _
  cases hxy : (x == y)
  · refine wpAny_bind (isSame_ne h0 htu hxy ?_)
    refine wpAny_pure (wpAny_truthy_bool ?_)
    exact second
  · refine wpAny_bind (wpAny_isSame_str h0 P₂.gb.nb fun b => ?_)
    refine wpAny_pure (wpAny_truthy_bool ?_)
    cases b with
    | false => exact second
    | true =>
      have : eqS x y = true := by rw [eqS_iff]; exact hxy
      rw [this] at hQ
      exact wpAny_pure (hQ F₂ h₂ tk₂ (u₁.trans u₂))
theorem eb_is_or_eq' {l r l' r' : Expr} {p1 p2 pos : Pos} {x y : Str} {T : Nat} (hl : EV c ρ l (.imm (.strB x T))) (hr : EV c ρ r (.imm (.strN y T))) (hl' : EV c ρ l' (.str x)) (hr' : EV c ρ r' (.str y))
    (hm : behindInMarks .Is r = false) (hm' : behindInMarks .Eq r' = false) :
    EB c ρ (.BoolOp .Or [.Compare l [.Is] [r] p1, .Compare l' [.Eq] [r'] p2] pos) (eqS x y) := by with_unfolding_all
  intro F s P V Q E hQ
  show wpAny _ _ (allTrue .Or [.Compare l [.Is] [r] p1, .Compare l' [.Eq] [r'] p2] c.env) Q E s
  unfold allTrue
  refine wpAny_bind (wpAny_isTrue_Compare1 ?_ hm)
  refine hl F s P V _ _ fun va F₁ h₁ tk₁ u₁ ra => ?_
  refine hr F₁ _ (P.up u₁) (V.up u₁) _ _ fun vb F₂ h₂ tk₂ u₂ rb => ?_
  obtain ⟨u, rfl, hT, ht⟩ : ∃ t, vb = .str y t ∧ 0 < T ∧ T ≤ t := by cases rb with | imm h => cases h with | strN _ t _ h0 h => exact ⟨t, rfl, h0, h⟩
  obtain ⟨t, rfl, hu, hu'⟩ : ∃ u, va = .str x u ∧ 0 < u ∧ u < T := by cases ra with | imm h => cases h with | strB _ t _ h0 h => exact ⟨t, rfl, h0, h⟩
  have h0 : (t == 0 || u == 0) = false := by
    rw [Bool.or_eq_false_iff]; exact ⟨beq_eq_false_iff_ne.mpr (Nat.ne_of_gt hu), beq_eq_false_iff_ne.mpr (Nat.ne_of_gt (Nat.lt_of_lt_of_le hT ht))⟩
  have htu : (t == u) = false := beq_eq_false_iff_ne.mpr (Nat.ne_of_lt (Nat.lt_of_lt_of_le hu' ht))
  have P₂ := (P.up (tk := tk₁) u₁).up (tk := tk₂) u₂
  have V₂ := (V.up (tk := tk₁) u₁).up (tk := tk₂) u₂
  have second : wpAny (model c.prog c.w) c.A (allTrue .Or [.Compare l' [.Eq] [r'] p2] c.env) Q E { s with heap := h₂, toks := tk₂ } := by
    have e2 : EB c ρ (.BoolOp .Or [.Compare l' [.Eq] [r'] p2] pos) (eqS x y || false) := eb_or_cons (eb_cmp hl' hr' cmp_eq_str hm') fun _ => eb_or_nil
    rw [Bool.or_false] at e2
    exact e2 F₂ _ P₂ V₂ Q E fun F' h' tk' u' => hQ F' h' tk' ((u₁.trans u₂).trans u')
  show wpAny _ _ (isSame (.str x t) (.str y u) >>= _) _ _ _
  cases hxy : (x == y)
  · refine wpAny_bind (isSame_ne h0 htu hxy ?_)
    refine wpAny_pure (wpAny_truthy_bool ?_)
    exact second
  · refine wpAny_bind (wpAny_isSame_str h0 P₂.gb.nb fun b => ?_)
    refine wpAny_pure (wpAny_truthy_bool ?_)
    cases b with
    | false => exact second
    | true =>
      have : eqS x y = true := by rw [eqS_iff]; exact hxy
      rw [this] at hQ
      exact wpAny_pure (hQ F₂ h₂ tk₂ (u₁.trans u₂))
noncomputable def IV.mark (T : Nat) : IV → IV
  | .strC x => .strB x T
  | i => i
noncomputable def PV.mark (T : Nat) : PV → PV
  | .imm i => .imm (i.mark T)
  | .list l => .list (l.map (IV.mark T))
  | p => p
theorem IR.mark {hi : Nat} {v : Value} {i : IV} {T : Nat} (h : IR hi v i) (hT : hi ≤ T) : IR hi v (i.mark T) := by
  cases h with
  | none => exact .none
  | bool b => exact .bool b
  | int i t => exact .int i t
  | str x t => exact .str x t
  | strC x t h0 h => exact .strB x t T h0 (Nat.lt_of_lt_of_le h hT)
  | strB x t T h0 h => exact .strB x t T h0 h
  | strN x t T h0 h => exact .strN x t T h0 h
theorem RV.mark {F : PM} {v : Value} {p : PV} {T : Nat} (h : RV F v p) (hT : F.hi ≤ T) : RV F v (p.mark T) := by
  cases h with
  | imm h => exact .imm (h.mark hT)
  | list h k => exact .list h (paired_map (fun _ _ r => r.mark hT) k)
  | tup h k => exact .tup h k
  | val v => exact .val v
  | slc h a b c => exact .slc h a b c
  | rng h => exact .rng h
  | lists h k => exact .lists h k
noncomputable def Rho.mark (T : Nat) (ρ : Rho) : Rho := ρ.map fun q => (q.1, q.2.mark T)
theorem lookup_mark (T : Nat) : ∀ (ρ : Rho) (x : Str), (Rho.mark T ρ).lookup x = (ρ.lookup x).map (PV.mark T)
  | [], x => rfl
  | (y, p) :: r, x => by
    show List.lookup x ((y, p.mark T) :: Rho.mark T r) = _
    by_cases z : x = y
    · subst z; simp [List.lookup_cons]
    · have z' : (x == y) = false := beq_eq_false_iff_ne.mpr z
      simp only [List.lookup_cons, z']; exact lookup_mark T r x
theorem exs_mark {sts : List Stmt} {ow ow' : Own} {fl : PF} {ρ' : Rho} (h : ∀ T, EXs { c with lo := T } sts (Rho.mark T ρ) ow fl ρ' ow') : EXs c sts ρ ow fl ρ' ow' := by with_unfolding_all
  intro a F s I Q E hQ
  obtain ⟨m, hn, hv, ho⟩ := I.store
  have I' : Inv { c with lo := s.toks } a F (Rho.mark s.toks ρ) ow s := ⟨I.room, I.gb, I.g0, I.keep, I.sub, I.le, I.new, I.hi, Nat.le_refl _, Nat.lt_of_lt_of_le I.lo0 I.lo, I.priv, m, hn, fun x p e => by
    rw [lookup_mark] at e
    cases hx : ρ.lookup x with
    | none => rw [hx] at e; cases e
    | some q =>
      rw [hx] at e; cases e
      obtain ⟨v, k, r⟩ := hv x q hx
      exact ⟨v, k, r.mark I.hi⟩, ho⟩
  refine wpAny_with_toks (n := s.toks) (Nat.le_refl _) (h s.toks a F s I' (fun f s' => s.toks ≤ s'.toks → Q f s') (fun e s' => s.toks ≤ s'.toks → E e s') fun f F' h' tk' le' J r (hlo : s.toks ≤ tk') => hQ f F' h' tk' le' ?_ r)
  exact ⟨J.room, J.gb, J.g0, J.keep, J.sub, J.le, J.new, J.hi, Nat.le_trans I.lo hlo, I.lo0, J.priv, J.store⟩
theorem iter_strN {x : Str} : IterOK c (.str x) ((chars x).map fun y => .imm (.strN y c.lo)) := by with_unfolding_all
  intro F s v P r Q E hQ
  obtain ⟨t, rfl⟩ := rv_str r
  have hlen : ((chars x).map fun y => PV.imm (.strN y c.lo)).length = x.cps.size := by simp [chars]
  have items : ∀ (i : Nat) (v : Value), (∃ (n : Nat) (u : Tok), x.cps[i]? = some n ∧ v = Value.str ⟨#[n]⟩ u ∧ c.lo ≤ u) → ∃ q, ((chars x).map fun y => PV.imm (.strN y c.lo))[i]? = some q ∧ RV F v q := fun i v h => by
    obtain ⟨n, u, hn, e, hu⟩ := h
    subst e
    refine ⟨.imm (.strN ⟨#[n]⟩ c.lo), ?_, .imm (.strN _ _ _ P.lo0 hu)⟩
    have : (x.cps.toList : List Nat)[i]? = some n := by simpa using hn
    simp [chars, this]
  cases ha : x.cps.all (· < 128)
  · refine wpAny_pyIter_wide ha ?_
    have W : WL c.prog c.w c.A c.lo s.heap.objs.size [s.heap.objs.size] [s.heap.objs.size] x.cps.size (fun i v => ∃ (n : Nat) (u : Tok), x.cps[i]? = some n ∧ v = Value.str ⟨#[n]⟩ u ∧ c.lo ≤ u) (fun i h => h.IsStrIter s.heap.objs.size "str_iterator" x t i) := by
      refine ⟨Walks.any (Walks.strWide P.room.handled s.heap.objs.size x t), fun i s' hi st hlo Q E hQ => ?_⟩
      refine wpAny_pyNext_wide_item st (c := x.cps[i]) (by simp [hi]) fun h' hit' hs' => ?_
      exact hQ _ h' (s'.toks + 1) ⟨_, _, by simp [hi], rfl, hlo⟩ hit' fun b o hb e => hs'.extBut b o (fun h => hb (by simp [h])) e
    rw [← hlen] at W
    refine hQ _ _ _ _ _ _ _ (Kp.push _ _) (Nat.le_refl _) W ⟨_, Heap.get?_push_size _ rfl, rfl, rfl⟩ (fun b hb => ?_) (fun b hb => ?_) items (fun i h hst b hb => ?_)
    · rw [List.mem_singleton.mp hb]; exact get_size _
    · rw [List.mem_singleton.mp hb]; exact ⟨.inl (List.mem_singleton.mpr rfl), by rw [Heap.get?_push_size _ rfl]; rfl⟩
    · rw [List.mem_singleton.mp hb]
      obtain ⟨o, e, _⟩ := hst
      rw [e]; rfl
  · refine wpAny_pyIter_ascii ha ?_
    have W : WL c.prog c.w c.A c.lo s.heap.objs.size [s.heap.objs.size] [s.heap.objs.size] x.cps.size (fun i v => ∃ (n : Nat) (u : Tok), x.cps[i]? = some n ∧ v = Value.str ⟨#[n]⟩ u ∧ c.lo ≤ u) (fun i h => h.IsStrIter s.heap.objs.size "str_ascii_iterator" x t i) := by
      refine ⟨Walks.any (Walks.strAscii P.room.handled s.heap.objs.size x t), fun i s' hi st hlo Q E hQ => ?_⟩
      refine wpAny_pyNext_ascii_item st (c := x.cps[i]) (by simp [hi]) fun h' hit' hs' => ?_
      exact hQ _ h' (s'.toks + 1) ⟨_, _, by simp [hi], rfl, hlo⟩ hit' fun b o hb e => hs'.extBut b o (fun h => hb (by simp [h])) e
    rw [← hlen] at W
    refine hQ _ _ _ _ _ _ _ (Kp.push _ _) (Nat.le_refl _) W ⟨_, Heap.get?_push_size _ rfl, rfl, rfl⟩ (fun b hb => ?_) (fun b hb => ?_) items (fun i h hst b hb => ?_)
    · rw [List.mem_singleton.mp hb]; exact get_size _
    · rw [List.mem_singleton.mp hb]; exact ⟨.inl (List.mem_singleton.mpr rfl), by rw [Heap.get?_push_size _ rfl]; rfl⟩
    · rw [List.mem_singleton.mp hb]
      obtain ⟨o, e, _⟩ := hst
      rw [e]; rfl
theorem iter_lists {ls : List (List IV)} : IterOK c (.lists ls) (ls.map PV.list) := by with_unfolding_all
  intro F s v P r Q E hQ
  cases r with
  | @lists a bs n _ hf hp =>
  have ha := P.sub _ _ hf
  refine wpAny_pyIter_list (items := (bs.map Value.ref).toArray) ⟨_, ha, rfl, n, rfl⟩ ?_
  have hne : a ≠ s.heap.objs.size := Nat.ne_of_lt (Heap.lt_size ha)
  have hlen : (ls.map PV.list).length = (bs.map Value.ref).toArray.size := by rw [List.length_map, List.size_toArray, List.length_map, hp.length]
  have W := Walks.list (prog := c.prog) (w := c.w) (A := c.A) P.room.handled s.heap.objs.size a hne (bs.map Value.ref).toArray
  rw [← hlen] at W
  refine hQ _ _ _ _ _ _ _ (Kp.push _ _) (Nat.le_refl _) (WL.of W) ⟨⟨_, Heap.get?_push_size _ rfl, rfl, rfl⟩, _, Heap.get?_push_of_some _ ha, rfl, n, rfl⟩ (fun b hb => ?_) (fun b hb => ?_) (fun i v hv => ?_) (fun i h hst b hb => ?_)
  · rw [List.mem_singleton.mp hb]; exact get_size _
  · rcases List.mem_cons.mp hb with e | hb
    · subst e; exact ⟨.inl (List.mem_singleton.mpr rfl), by rw [Heap.get?_push_size _ rfl]; rfl⟩
    · rw [List.mem_singleton.mp hb]; exact ⟨.inr ⟨_, hf⟩, by rw [Heap.get?_push_of_some _ ha]; rfl⟩
  · have hv' : (bs.map Value.ref)[i]? = some v := by simpa using hv
    rw [List.getElem?_map] at hv'
    cases hb : bs[i]? with
    | none => rw [hb] at hv'; cases hv'
    | some b =>
      rw [hb] at hv'; cases hv'
      obtain ⟨l, hl, vs, k, e, q⟩ := paired_get' hp i b hb
      exact ⟨.list l, by rw [List.getElem?_map, hl]; rfl, .list e q⟩
  · rw [List.mem_singleton.mp hb]
    obtain ⟨⟨o, e, _⟩, _⟩ := hst
    rw [e]; rfl
end
end Mine
end
section
open PySem PySem.W PySem.Calls PyProof.Rows PySem.Builtin PySem.Builtin.Str PySem.Spec PySem.SeqAt
namespace Mine
section
variable {c : Cx} {ρ : Rho}
theorem true_int {i : Int} : TrueOK c (.int i) (i != 0) := by with_unfolding_all
  intro F s va P r Q E hQ
  obtain ⟨t, rfl⟩ := rv_int r
  exact PySem.P.truthy_int (hQ F s.heap s.toks P.refl)
noncomputable def optStr : Option Str → PV
  | some x => .str x
  | none => .none
theorem datum_str (k : Int) : ∀ T : List (Int × Str), KTD.datumAt k (T.map fun q => (q.1, PyData.str q.2)) = (T.lookup k).map PyData.str
  | [] => rfl
  | (i, x) :: T => by
    show (if decide (k = i) = true then some (PyData.str x) else KTD.datumAt k (T.map fun q => (q.1, PyData.str q.2))) = _
    rw [datum_str k T]
    by_cases h : k = i
    · subst h; simp
    · have h' : (k == i) = false := beq_eq_false_iff_ne.mpr h
      simp only [List.lookup_cons, h', decide_eq_false h]; simp
theorem meth_get {a : Addr} {T : List (Int × Str)} {k : Int} (hm : (a, T) ∈ c.I.tabs) : MethOK c "get" (.val (.ref a)) [.int k] (optStr (T.lookup k)) := by
  refine ⟨"dict", _, PySem.F.plainAttrs_dict, PySem.F.slot_dict_get, PySem.F.type_dict_get, fun F s va P ra => ?_⟩
  obtain rfl := rv_val ra
  have K := P.gb.tabs _ hm
  obtain ⟨_, kvs, ⟨o, es, ep, ho, hc, _⟩, _⟩ := K c.prog c.w
  refine ⟨⟨o, ho, hc.1⟩, fun b e => by cases e; exact ⟨o, ho, hc.2.1⟩, fun vs rs Q E hQ => ?_⟩
  obtain ⟨v, rfl, r⟩ := one_arg rs
  obtain ⟨t, rfl⟩ := rv_int r
  refine call_get1_intTab (K c.prog c.w) fun v hv => ?_
  rw [KTD.lookup_keyed, datum_str] at hv
  cases hl : T.lookup k with
  | none =>
    rw [hl] at hv hQ
    have hv' : PyProof.V.Flat v .none := hv
    rw [hv'.none_inv]
    exact hQ.tick P 1 (.imm .none)
  | some x =>
    rw [hl] at hv hQ
    obtain ⟨t', rfl⟩ := PyProof.V.Flat.str_inv hv
    exact hQ.tick P 1 (.imm (.str _ _))
theorem meth_get2 {a : Addr} {T : List (Int × Str)} {k : Int} {y : Str} (hm : (a, T) ∈ c.I.tabs) : MethOK c "get" (.val (.ref a)) [.int k, .str y] (.str ((T.lookup k).getD y)) := by
  refine ⟨"dict", _, PySem.F.plainAttrs_dict, PySem.F.slot_dict_get, PySem.F.type_dict_get, fun F s va P ra => ?_⟩
  obtain rfl := rv_val ra
  have K := P.gb.tabs _ hm
  obtain ⟨_, kvs, ⟨o, es, ep, ho, hc, _⟩, _⟩ := K c.prog c.w
  refine ⟨⟨o, ho, hc.1⟩, fun b e => by cases e; exact ⟨o, ho, hc.2.1⟩, fun vs rs Q E hQ => ?_⟩
  obtain ⟨v, v', rfl, r, r'⟩ := two_args rs
  obtain ⟨t, rfl⟩ := rv_int r
  obtain ⟨u, rfl⟩ := rv_str r'
  refine call_get2_intTab (K c.prog c.w) (PyProof.V.Flat.str y u) fun v hv => ?_
  rw [KTD.lookup_keyed, datum_str] at hv
  cases hl : T.lookup k with
  | none =>
    rw [hl] at hv hQ
    obtain ⟨t', rfl⟩ := PyProof.V.Flat.str_inv hv
    exact hQ.tick P 1 (.imm (.str _ _))
  | some x =>
    rw [hl] at hv hQ
    obtain ⟨t', rfl⟩ := PyProof.V.Flat.str_inv hv
    exact hQ.tick P 1 (.imm (.str _ _))
theorem cmp_in_set {a : Addr} {S : Int → Bool} {n : Nat} {k : Int} (hm : (a, S, n) ∈ c.I.sets) : CmpOK c .In (.int k) (.val (.ref a)) (.bool (S k)) := by with_unfolding_all
  intro F s va vb P ra rb Q E hQ
  obtain ⟨t, rfl⟩ := rv_int ra
  obtain rfl := rv_val rb
  obtain ⟨o, ho, hs, hn⟩ := P.gb.sets _ hm
  exact wpAny_inSet_of (intKind_is _ _ _ _) rfl ((hs c.prog c.w).setOf ho hn) (hQ.tick P 1 (.imm (.bool _)))
noncomputable def insS (x : Nat) : List Nat → List Nat
  | [] => [x]
  | y :: r => if x ≤ y then x :: y :: r else y :: insS x r
noncomputable def sortN : List Nat → List Nat
  | [] => []
  | x :: r => insS x (sortN r)
theorem insS_perm (x : Nat) : ∀ l, (insS x l).Perm (x :: l)
  | [] => .refl _
  | y :: r => by
    unfold insS; split
    · exact .refl _
    · exact ((insS_perm x r).cons y).trans (.swap x y r)
theorem sortN_perm : ∀ l, (sortN l).Perm l
  | [] => .refl _
  | x :: r => (insS_perm x _).trans ((sortN_perm r).cons x)
theorem insS_sorted (x : Nat) : ∀ l : List Nat, l.Pairwise (· ≤ ·) → (insS x l).Pairwise (· ≤ ·)
  | [], _ => by simp [insS]
  | y :: r, h => by
    unfold insS
    have h' := List.pairwise_cons.mp h
    split
    · rename_i hxy
      refine List.pairwise_cons.mpr ⟨fun z hz => ?_, h⟩
      rcases List.mem_cons.mp hz with rfl | hz
      · exact hxy
      · exact Nat.le_trans hxy (h'.1 z hz)
    · rename_i hxy
      refine List.pairwise_cons.mpr ⟨fun z hz => ?_, insS_sorted x r h'.2⟩
      have := (insS_perm x r).mem_iff.mp hz
      rcases List.mem_cons.mp this with rfl | hz
      · omega
      · exact h'.1 z hz
theorem sortN_sorted : ∀ l : List Nat, (sortN l).Pairwise (· ≤ ·)
  | [] => .nil
  | x :: r => insS_sorted x _ (sortN_sorted r)
theorem sorted_unique : ∀ {l m : List Nat}, l.Pairwise (· ≤ ·) → m.Pairwise (· ≤ ·) → l.Perm m → l = m
  | [], m, _, _, h => (List.nil_perm.mp h).symm ▸ rfl
  | x :: l, [], _, _, h => by have := h.length_eq; simp at this
  | x :: l, y :: m, hl, hm, h => by
    have h1 := List.pairwise_cons.mp hl
    have h2 := List.pairwise_cons.mp hm
    have e : x = y := by
      have a : x ∈ y :: m := h.mem_iff.mp List.mem_cons_self
      have b : y ∈ x :: l := h.mem_iff.mpr List.mem_cons_self
      rcases List.mem_cons.mp a with a | a
      · exact a
      · rcases List.mem_cons.mp b with b | b
        · exact b.symm
        · have := h1.1 y b; have := h2.1 x a; omega
    subst e
    rw [sorted_unique h1.2 h2.2 (List.Perm.cons_inv h)]
noncomputable def sgn (n : Nat) : Str := ⟨#[n]⟩
theorem chars_eq (x : Str) : chars x = x.cps.toList.map sgn := rfl
theorem sgn_perm {ys : List Str} {l : List Nat} (h : ys.Perm (l.map sgn)) : ∃ m : List Nat, ys = m.map sgn ∧ m.Perm l := by
  have e : ys = (ys.map fun y => y.cps[0]?.getD 0).map sgn := by
    rw [List.map_map]
    have : ∀ y ∈ ys, (sgn ∘ fun y : Str => y.cps[0]?.getD 0) y = y := fun y hy => by
      have := h.mem_iff.mp hy
      obtain ⟨n, _, rfl⟩ := List.mem_map.mp this
      rfl
    exact (List.map_congr_left this).trans (List.map_id' _) |>.symm
  refine ⟨_, e, ?_⟩
  have := h.map fun y : Str => y.cps[0]?.getD 0
  rw [List.map_map] at this
  have e2 : l.map ((fun y : Str => y.cps[0]?.getD 0) ∘ sgn) = l := by
    have : ∀ n ∈ l, ((fun y : Str => y.cps[0]?.getD 0) ∘ sgn) n = n := fun n _ => rfl
    exact (List.map_congr_left this).trans (List.map_id' _)
  rw [e2] at this
  exact this
theorem rising_pairwise : ∀ (p : Nat) (m : List Nat), risingS (sgn p) (m.map sgn) = true → (p :: m).Pairwise (· ≤ ·)
  | p, [], _ => by simp
  | p, x :: r, h => by
    have h : (!ltCps (sgn x).cps.toList (sgn p).cps.toList && risingS (sgn x) (r.map sgn)) = true := h
    obtain ⟨h1, h2⟩ := Bool.and_eq_true_iff.mp h
    have ih := rising_pairwise x r h2
    have hpx : p ≤ x := by
      rw [ltCps_eq] at h1
      by_cases hx : x < p
      · exfalso
        have : ((sgn x).cps.toList < (sgn p).cps.toList) := by
          show [x] < [p]
          exact List.Lex.rel hx
        rw [decide_eq_true this] at h1; simp at h1
      · omega
    refine List.pairwise_cons.mpr ⟨fun z hz => ?_, ih⟩
    rcases List.mem_cons.mp hz with rfl | hz
    · exact hpx
    · exact Nat.le_trans hpx ((List.pairwise_cons.mp ih).1 z hz)
theorem sortedS_unique {ys : List Str} {l : List Nat} (hp : ys.Perm (l.map sgn)) (hs : sortedS ys = true) : ys = (sortN l).map sgn := by
  obtain ⟨m, rfl, hm⟩ := sgn_perm hp
  have : m.Pairwise (· ≤ ·) := by
    cases m with
    | nil => exact .nil
    | cons x r => exact rising_pairwise x r hs
  rw [sorted_unique this (sortN_sorted l) (hm.trans (sortN_perm l).symm)]
theorem strsAre_of_items {x : Str} : ∀ {acc : List Value} {l : List Nat}, acc.length = l.length → (∀ (j : Nat) (v : Value), acc[j]? = some v → ∃ (n : Nat) (u : Tok), l[j]? = some n ∧ v = Value.str (sgn n) u) → StrsAre acc (l.map sgn)
  | [], [], _, _ => .nil
  | v :: acc, n :: l, hl, h => by
    obtain ⟨n', u, e, rfl⟩ := h 0 v rfl
    cases e
    exact .cons _ _ (strsAre_of_items (x := x) (by simpa using hl) fun j v hv => h (j + 1) v hv)
theorem call_sorted {x : Str} (hx : x.length < 64) : CallOK c (.builtin "sorted") [.str x] (.strs ((sortN x.cps.toList).map sgn)) := by with_unfolding_all
  intro F s vs P rs Q E hQ
  obtain ⟨v, rfl, r⟩ := one_arg rs
  obtain ⟨t, rfl⟩ := rv_str r
  refine Calls.call_function_entry kind_sorted plain_sorted entry_sorted (args_sorted1 _) ?_
  unfold Builtin.«sorted»
  refine wpAny_bind (m := checkCount "sorted" 1 1 _) (wpAny_pure ?_)
  have hsz : x.cps.size < 64 := hx
  refine wpAny_bind (wpAny_with_toks (Nat.le_refl _) (wpAny_collect_str (A := c.A.in1) (show c.A.in1.handled = none from P.room.handled) x t (fun s' acc keep hg hd ho hacc => ?_) (by rw [sizeLine_eq]; omega)))
  intro (htk : s.toks ≤ s'.toks)
  have es : s' = { s with heap := s'.heap, toks := s'.toks } := by cases s'; cases s; simp_all
  have hS : StrsAre acc.toList (x.cps.toList.map sgn) := by
    refine strsAre_of_items (x := x) (by rw [Array.length_toList, hacc.1, Array.length_toList]) fun j v hv => ?_
    obtain ⟨n, u, e1, e2⟩ := hacc.2 j v (by simpa using hv)
    exact ⟨n, u, by simpa using e1, e2⟩
  have h64 : acc.toList.length < 64 := by rw [Array.length_toList, hacc.1]; exact hsz
  refine wpAny_bind (wpAny_newList ?_ (by rw [Array.length_toList, hacc.1, sizeLine_eq]; omega))
  have hoL : (s'.heap.push (seqObj "list" acc.toList.toArray 0)).get? s'.heap.objs.size = some (seqObj "list" acc.toList.toArray 0) := Heap.get?_push_size _ rfl
  refine wpAny_bind (wpAny_holding (wpAny_call_entry slot_list_sort ⟨_, hoL, rfl⟩ entry_list_sort (list_sort_treeK strKind_oneLt hoL hS.keysOf (fun v₁ v₂ rest e => keyKind_strs (by rw [← e]; exact hS)) h64 fun st' hp hs => ⟨_, rfl, ?_⟩) (args_list_sort _)))
  refine wpAny_pure ⟨_, rfl, ?_⟩
  obtain ⟨ss', h1, h2, h3⟩ := sorted_out_str hS hp hs
  have hss := sortedS_unique h2 h3
  subst hss
  obtain ⟨e, he⟩ := sortedHeap_at (out := (arrOf st').map (·.2)) hoL
  obtain ⟨l, hl1, hl2⟩ := strsAre_values h1
  have keep2 : Kp s.heap (sortedHeap (s'.heap.push (seqObj "list" acc.toList.toArray 0)) s'.heap.objs.size acc.toList ((arrOf st').map (·.2))) := fun b o eb => by
    have e1 := keep b o eb
    have hlt := Heap.lt_size e1
    rw [sortedHeap_old (Nat.ne_of_lt hlt) (by rw [Heap.size_push]; exact Nat.lt_succ_of_lt hlt)]
    exact Heap.get?_push_of_some _ e1
  have new : s.heap.get? s'.heap.objs.size = none := by
    cases e1 : s.heap.get? s'.heap.objs.size with
    | none => rfl
    | some o => exact absurd (Heap.lt_size (keep _ _ e1)) (Nat.lt_irrefl _)
  have arr : ((arrOf st').map (·.2)) = (strValues l).toArray := by rw [← hl1]
  rw [arr] at he
  have fin := hQ (.ref s'.heap.objs.size) (addF F s'.heap.objs.size (listObj (strValues l) e)) _ s'.toks (Up.add P.sub keep2 new (by rw [arr]; exact he) P.hi htk) (.list (addF_self _ _ _) (by rw [← hl2]; exact paired_of_strs l))
  rw [es]
  exact fin
theorem preSum_eq : ∀ (l : List Int) (n : Nat), n ≤ l.length → PySem.preSum (fun i => l.getD i 0) n = (l.take n).sum
  | l, 0, _ => by simp [PySem.preSum]
  | l, n + 1, h => by
    show PySem.preSum _ n + l.getD n 0 = _
    have hl : n < l.length := h
    rw [preSum_eq l n (Nat.le_of_succ_le h), List.take_succ]
    have e1 : l[n]? = some l[n] := List.getElem?_eq_getElem hl
    rw [e1, List.getD_eq_getElem?_getD, e1, List.sum_append]
    simp
theorem call_sum {l : List Int} (hb : ∀ i ∈ l, 0 ≤ i ∧ i ≤ 1000000) (hl : l.length ≤ 1000) : CallOK c (.builtin "sum") [.ints l] (.int l.sum) := by with_unfolding_all
  intro F s vs P rs Q E hQ
  obtain ⟨v, rfl, r⟩ := one_arg rs
  obtain ⟨a, vs, n, rfl, hf, hp⟩ := rv_list r
  have hlen : vs.length = l.length := by rw [hp.length, List.length_map]
  have ha := P.sub _ _ hf
  have hne : a ≠ s.heap.objs.size := Nat.ne_of_lt (Heap.lt_size ha)
  refine wpAny_with_toks (n := s.toks) (Nat.le_refl _) (call_sum_walk (wpAny_pyIter_list (list_is P hf) ?_))
  refine ⟨_, _, _, _, _, _, fun i => l.getD i 0, rfl, Walks.list (A := c.A.in1) (show c.A.in1.handled = none from P.room.handled) s.heap.objs.size a hne vs.toArray, ⟨⟨_, Heap.get?_push_size _ rfl, rfl, rfl⟩, _, Heap.get?_push_of_some _ ha, rfl, n, rfl⟩, fun b hb => ?_, fun i v hv => ?_, fun j hj => ?_, fun h' tk t' keep => ?_⟩
  · show b < (s.heap.push _).objs.size
    rw [Heap.size_push]
    rcases List.mem_cons.mp hb with rfl | hb
    · exact Nat.lt_succ_self _
    · rw [List.mem_singleton.mp hb]; exact Nat.lt_succ_of_lt (Heap.lt_size ha)
  · have hv' : vs[i]? = some v := by simpa using hv
    obtain ⟨q, hq, r⟩ := paired_get' hp i v hv'
    rw [List.getElem?_map] at hq
    cases hi : l[i]? with
    | none => rw [hi] at hq; cases hq
    | some k =>
      rw [hi] at hq; cases hq
      cases r with
      | int _ t => exact ⟨t, by show Value.int k t = Value.int (l.getD i 0) t; rw [List.getD_eq_getElem?_getD, hi]; rfl⟩
  · have hj' : j < l.length := by rw [List.size_toArray, hlen] at hj; exact hj
    have bound : ∀ m : List Int, (∀ i ∈ m, 0 ≤ i ∧ i ≤ 1000000) → 0 ≤ m.sum ∧ m.sum ≤ 1000000 * m.length := by
      intro m
      induction m with
      | nil => intro _; simp
      | cons x m ih =>
        intro h
        have h1 := h x List.mem_cons_self
        have h2 := ih fun i hi => h i (List.mem_cons_of_mem _ hi)
        simp only [List.sum_cons, List.length_cons]
        omega
    have e : l.getD j 0 = l[j] := by rw [List.getD_eq_getElem?_getD, List.getElem?_eq_getElem hj']; rfl
    have hx := hb l[j] (List.getElem_mem hj')
    have hs := bound (l.take (j + 1)) fun i hi => hb i (List.mem_of_mem_take hi)
    have hlt : (l.take (j + 1)).length ≤ 1000 := by rw [List.length_take]; omega
    refine ⟨?_, ?_⟩
    · show InLong (l.getD j 0)
      rw [e]; unfold InLong; omega
    · rw [preSum_eq l (j + 1) hj']
      unfold InLong; omega
  · intro (htk : s.toks ≤ tk)
    rw [show PySem.preSum (fun i => l.getD i 0) vs.toArray.size = l.sum from by rw [List.size_toArray, hlen, preSum_eq l _ (Nat.le_refl _), List.take_length]]
    refine hQ _ F h' tk (Up.kept P.sub (fun b o e => keep b o (fun hm => ?_) (Heap.get?_push_of_some _ e)) P.hi htk) (.imm (.int _ _))
    rw [List.mem_singleton.mp hm, get_size] at e; cases e
end
end Mine
end
section
open PySem PySem.W PySem.Calls PyProof.Rows PySem.Spec
set_option maxRecDepth 100000
namespace Mine
noncomputable def fnRec (i : Nat) (addr : Addr) : FnRec := match PySem.Challenge.pw_ta0049_01.main.body[i]? with
  | some (.FunctionDef name args body _ _ _ scope _ _ _) => ⟨addr, name, args, body, scope⟩
  | _ => ⟨addr, ⟨#[]⟩, ⟨[], [], none, [], [], none, []⟩, [], PySem.Challenge.pw_ta0049_01.main.scope⟩
noncomputable def dQuote := fnRec 5 48
noncomputable def dFlags := fnRec 8 56
noncomputable def dLe := fnRec 10 63
noncomputable def dEq := fnRec 11 70
noncomputable def dGt := fnRec 12 77
noncomputable def dAdd := fnRec 13 84
noncomputable def dShl := fnRec 14 91
noncomputable def dOr := fnRec 15 98
noncomputable def dConcat := fnRec 16 105
noncomputable def dCount := fnRec 17 112
noncomputable def dIndex := fnRec 18 119
noncomputable def dB1 := fnRec 21 137
noncomputable def dB3 := fnRec 23 183
noncomputable def dCells := fnRec 25 188
noncomputable def dHidden := fnRec 26 193
noncomputable def dNames := fnRec 27 198
noncomputable def dTyped := fnRec 28 205
noncomputable def dMoved := fnRec 29 212
noncomputable def dSent := fnRec 30 217
noncomputable def dTold := fnRec 31 224
noncomputable def dBack := fnRec 32 229
noncomputable def dLaw := fnRec 33 234
noncomputable def intC : Option Expr → Int
  | some (.Constant (.int i) _ _) => i
  | _ => 0
noncomputable def strC : Expr → Str
  | .Constant (.str x) _ _ => x
  | _ => ⟨#[]⟩
noncomputable def tabOf (i : Nat) : List (Int × Str) := match PySem.Challenge.pw_ta0049_01.main.body[i]? with
  | some (.Assign _ (.Dict ks vs _) _) => (ks.map intC).zip (vs.map strC)
  | _ => []
noncomputable def flagT : List (Int × Str) := tabOf 7
noncomputable def b3T : List (Int × Str) := tabOf 22
noncomputable def b1L : List Int := [173, 847, 6150, 6155, 6156, 6157, 8203, 8204, 8205, 8288, 65279, 65024, 65025, 65026, 65027, 65028, 65029, 65030, 65031, 65032, 65033, 65034, 65035, 65036, 65037, 65038, 65039]
noncomputable abbrev gr (n : Str) (a : Addr) : Str × Option Value := (n, some (.ref a))
noncomputable abbrev gn (n : Str) : Str × Option Value := (n, none)
noncomputable abbrev gb (n : Str) (v : Value) : Str × Value := (n, v)
noncomputable def topI : TopInfo where
  glob := [gr "quotedata" 48, gr "pretty_flags" 56, gr "le" 63, gr "eq" 70, gr "gt" 77, gr "add" 84, gr "lshift" 91, gr "or_" 98,
    gr "concat" 105, gr "countOf" 112, gr "indexOf" 119, gr "in_table_b1" 137, gr "map_table_b3" 183, gr "_law_cells" 188, gr "_law_hidden" 193,
    gr "_law_names" 198, gr "_law_typed" 205, gr "_law_moved" 212, gr "_law_sent" 217, gr "_law_told" 224, gr "_law_back" 229,
    gr "_twin_re_1" 36, gr "_twin_re_2" 41, gr "COMPILER_FLAG_NAMES" 49, gr "b1_set" 127, gr "b3_exceptions" 138,
    gn "range", gn "hex", gn "hasattr", gn "enumerate", gn "ord", gn "sum", gn "chr", gn "len", gn "sorted", gn "type", gn "TypeError", gn "ValueError", gn "set", gn "list"]
  blt := [gb "range" (.type "range"), gb "hex" (.builtin "hex"), gb "hasattr" (.builtin "hasattr"), gb "enumerate" (.type "enumerate"), gb "ord" (.builtin "ord"), gb "sum" (.builtin "sum"), gb "chr" (.builtin "chr"), gb "len" (.builtin "len"), gb "sorted" (.builtin "sorted")]
  fns := [dQuote, dFlags, dLe, dEq, dGt, dAdd, dShl, dOr, dConcat, dCount, dIndex, dB1, dB3, dCells, dHidden, dNames, dTyped, dMoved, dSent, dTold, dBack]
  objs := []
  tabs := [(49, flagT), (138, b3T)]
  sets := [(127, (fun i => decide (i ∈ b1L)), 27)]
  txts := [("CRLF", ⟨#[13, 10]⟩)]
  pats := [(36, code1), (41, code2)]
theorem names0 {P : Str → Prop} : ∀ n ∈ ([] : List Str), P n := fun _ h => nomatch h
theorem namesC {P : Str → Prop} {a : Str} {l : List Str} (h : P a) (t : ∀ n ∈ l, P n) : ∀ n ∈ a :: l, P n := fun n hn => by
  rcases List.mem_cons.mp hn with rfl | hn
  · exact h
  · exact t n hn
theorem cons_ret {c : Cx} {st : Stmt} {rest : List Stmt} {ρ ρ' : Rho} {ow ow' : Own} {p : PV} (h : EX c st ρ ow (.ret p) ρ' ow') : EXs c (st :: rest) ρ ow (.ret p) ρ' ow' := exs_leave h (by intro h; cases h)
theorem bind0 {d : FnRec} (h : ∀ doc pm an cdv ct, bindArgs (fnX d.name d.name d.params d.body d.scope [] .none .none doc pm an cdv ct) ⟨[], []⟩ = pure []) : ∀ vs : List Value, vs.length = ([] : List Str).length → ∀ doc pm an cdv ct, bindArgs (fnX d.name d.name d.params d.body d.scope [] .none .none doc pm an cdv ct) ⟨vs, []⟩ = pure (([] : List Str).zip vs) := by
  intro vs hl doc pm an cdv ct
  match vs, hl with
  | [], _ => exact h doc pm an cdv ct
theorem bind1 {d : FnRec} {a : Str} (h : ∀ x doc pm an cdv ct, bindArgs (fnX d.name d.name d.params d.body d.scope [] .none .none doc pm an cdv ct) ⟨[x], []⟩ = pure [(a, x)]) : ∀ vs : List Value, vs.length = [a].length → ∀ doc pm an cdv ct, bindArgs (fnX d.name d.name d.params d.body d.scope [] .none .none doc pm an cdv ct) ⟨vs, []⟩ = pure ([a].zip vs) := by
  intro vs hl doc pm an cdv ct
  match vs, hl with
  | [x], _ => exact h x doc pm an cdv ct
theorem bind2 {d : FnRec} {a b : Str} (h : ∀ x y doc pm an cdv ct, bindArgs (fnX d.name d.name d.params d.body d.scope [] .none .none doc pm an cdv ct) ⟨[x, y], []⟩ = pure [(a, x), (b, y)]) : ∀ vs : List Value, vs.length = [a, b].length → ∀ doc pm an cdv ct, bindArgs (fnX d.name d.name d.params d.body d.scope [] .none .none doc pm an cdv ct) ⟨vs, []⟩ = pure ([a, b].zip vs) := by
  intro vs hl doc pm an cdv ct
  match vs, hl with
  | [x, y], _ => exact h x y doc pm an cdv ct
theorem okGt : FnOK dGt ["a", "b"] := ⟨rfl, rfl, rfl, namesC (.inl rfl) (namesC (.inl rfl) names0), bind2 fun _ _ _ _ _ _ _ => rfl⟩
theorem okLe : FnOK dLe ["a", "b"] := ⟨rfl, rfl, rfl, namesC (.inl rfl) (namesC (.inl rfl) names0), bind2 fun _ _ _ _ _ _ _ => rfl⟩
theorem okEq : FnOK dEq ["a", "b"] := ⟨rfl, rfl, rfl, namesC (.inl rfl) (namesC (.inl rfl) names0), bind2 fun _ _ _ _ _ _ _ => rfl⟩
theorem okAdd : FnOK dAdd ["a", "b"] := ⟨rfl, rfl, rfl, namesC (.inl rfl) (namesC (.inl rfl) names0), bind2 fun _ _ _ _ _ _ _ => rfl⟩
theorem okShl : FnOK dShl ["a", "b"] := ⟨rfl, rfl, rfl, namesC (.inl rfl) (namesC (.inl rfl) names0), bind2 fun _ _ _ _ _ _ _ => rfl⟩
theorem okOr : FnOK dOr ["a", "b"] := ⟨rfl, rfl, rfl, namesC (.inl rfl) (namesC (.inl rfl) names0), bind2 fun _ _ _ _ _ _ _ => rfl⟩
theorem okConcat : FnOK dConcat ["a", "b"] := ⟨rfl, rfl, rfl, namesC (.inl rfl) (namesC (.inl rfl) names0), bind2 fun _ _ _ _ _ _ _ => rfl⟩
theorem okCount : FnOK dCount ["a", "b"] := ⟨rfl, rfl, rfl, namesC (.inl rfl) (namesC (.inl rfl) names0), bind2 fun _ _ _ _ _ _ _ => rfl⟩
theorem okIndex : FnOK dIndex ["a", "b"] := ⟨rfl, rfl, rfl, namesC (.inl rfl) (namesC (.inl rfl) names0), bind2 fun _ _ _ _ _ _ _ => rfl⟩
theorem okB1 : FnOK dB1 ["code"] := ⟨rfl, rfl, rfl, namesC (.inl rfl) names0, bind1 fun _ _ _ _ _ _ => rfl⟩
theorem okB3 : FnOK dB3 ["code"] := ⟨rfl, rfl, rfl, namesC (.inl rfl) names0, bind1 fun _ _ _ _ _ _ => rfl⟩
theorem okFlags : FnOK dFlags ["flags"] := ⟨rfl, rfl, rfl, namesC (.inl rfl) names0, bind1 fun _ _ _ _ _ _ => rfl⟩
theorem okQuote : FnOK dQuote ["data"] := ⟨rfl, rfl, rfl, namesC (.inl rfl) names0, bind1 fun _ _ _ _ _ _ => rfl⟩
theorem okCells : FnOK dCells ["script"] := ⟨rfl, rfl, rfl, namesC (.inr ⟨rfl, fun _ => rfl⟩) names0, bind1 fun _ _ _ _ _ _ => rfl⟩
theorem okHidden : FnOK dHidden [] := ⟨rfl, rfl, rfl, names0, bind0 fun _ _ _ _ _ => rfl⟩
theorem okNames : FnOK dNames [] := ⟨rfl, rfl, rfl, names0, bind0 fun _ _ _ _ _ => rfl⟩
theorem okTyped : FnOK dTyped ["cells", "hidden"] := ⟨rfl, rfl, rfl, namesC (.inl rfl) (namesC (.inl rfl) names0), bind2 fun _ _ _ _ _ _ _ => rfl⟩
theorem okMoved : FnOK dMoved ["word"] := ⟨rfl, rfl, rfl, namesC (.inl rfl) names0, bind1 fun _ _ _ _ _ _ => rfl⟩
theorem okSent : FnOK dSent ["row", "turn"] := ⟨rfl, rfl, rfl, namesC (.inr ⟨rfl, fun _ => rfl⟩) (namesC (.inr ⟨rfl, fun _ => rfl⟩) names0), bind2 fun _ _ _ _ _ _ _ => rfl⟩
theorem okTold : FnOK dTold ["dots", "stock"] := ⟨rfl, rfl, rfl, namesC (.inl rfl) (namesC (.inl rfl) names0), bind2 fun _ _ _ _ _ _ _ => rfl⟩
theorem okBack : FnOK dBack ["row"] := ⟨rfl, rfl, rfl, namesC (.inl rfl) names0, bind1 fun _ _ _ _ _ _ => rfl⟩
theorem okLaw : FnOK dLaw ["script"] := ⟨rfl, rfl, rfl, namesC (.inl rfl) names0, bind1 fun _ _ _ _ _ _ => rfl⟩
section
variable {prog : Program} {w : World}
theorem fn_gt_str {x y : Str} : FN prog w topI dGt 1 [.str x, .str y] (.bool (ltS y x)) :=
  fn_intro (by simp [topI]) okGt rfl fun A L cdv lo hk => ⟨_, _, cons_ret (ex_ret (ev_cmp (ev_var rfl hk rfl) (ev_var rfl hk rfl) cmp_gt_str rfl))⟩
theorem fn_le_str {x y : Str} : FN prog w topI dLe 1 [.str x, .str y] (.bool (!ltS y x)) :=
  fn_intro (by simp [topI]) okLe rfl fun A L cdv lo hk => ⟨_, _, cons_ret (ex_ret (ev_cmp (ev_var rfl hk rfl) (ev_var rfl hk rfl) cmp_le_str rfl))⟩
theorem fn_eq_str {x y : Str} : FN prog w topI dEq 1 [.str x, .str y] (.bool (eqS x y)) :=
  fn_intro (by simp [topI]) okEq rfl fun A L cdv lo hk => ⟨_, _, cons_ret (ex_ret (ev_cmp (ev_var rfl hk rfl) (ev_var rfl hk rfl) cmp_eq_str rfl))⟩
theorem fn_eq_bool {x y : Bool} : FN prog w topI dEq 1 [.bool x, .bool y] (.bool (x == y)) :=
  fn_intro (by simp [topI]) okEq rfl fun A L cdv lo hk => ⟨_, _, cons_ret (ex_ret (ev_cmp (ev_var rfl hk rfl) (ev_var rfl hk rfl) cmp_eq_bool rfl))⟩
theorem fn_add {x y : Int} : FN prog w topI dAdd 1 [.int x, .int y] (.int (x + y)) :=
  fn_intro (by simp [topI]) okAdd rfl fun A L cdv lo hk => ⟨_, _, cons_ret (ex_ret (ev_bin (ev_var rfl hk rfl) (ev_var rfl hk rfl) bin_add_int))⟩
theorem fn_shl {x y : Int} (h : 0 ≤ y) (hs : (Builtin.Int.intBits x : Int) + y ≤ 2 ^ 27) : FN prog w topI dShl 1 [.int x, .int y] (.int (x * 2 ^ y.toNat)) :=
  fn_intro (by simp [topI]) okShl rfl fun A L cdv lo hk => ⟨_, _, cons_ret (ex_ret (ev_bin (ev_var rfl hk rfl) (ev_var rfl hk rfl) (bin_shl_int h hs)))⟩
theorem fn_or {x y : Int} : FN prog w topI dOr 1 [.int x, .int y] (.int (Builtin.bitOr x y)) :=
  fn_intro (by simp [topI]) okOr rfl fun A L cdv lo hk => ⟨_, _, cons_ret (ex_ret (ev_bin (ev_var rfl hk rfl) (ev_var rfl hk rfl) bin_or_int))⟩
theorem fn_concat_str {x y : Str} (h : x.length + y.length ≤ sizeLine) : FN prog w topI dConcat 1 [.str x, .str y] (.str (x ++ y)) :=
  fn_intro (by simp [topI]) okConcat rfl fun A L cdv lo hk => ⟨_, _, exs_cons
    (ex_if_false (eb_not (t := true) (eb_ev (ev_call (ev_blt (u := .builtin "hasattr") hk rfl (by (repeat (first | exact List.Mem.head _ | refine List.Mem.tail _ ?_))) (by (repeat (first | exact List.Mem.head _ | refine List.Mem.tail _ ?_))) rfl) (evs_cons (ev_var rfl hk rfl) (evs_cons ev_str evs_nil rfl) rfl) hasattr_str_ok (.inl ⟨_, rfl⟩) rfl) true_bool)) exs_nil)
    (cons_ret (ex_ret (ev_bin (ev_var rfl hk rfl) (ev_var rfl hk rfl) (bin_add_str h))))⟩
theorem fn_concat_list {l m : List IV} (h : l.length + m.length ≤ 100000) : FN prog w topI dConcat 1 [.list l, .list m] (.list (l ++ m)) :=
  fn_intro (by simp [topI]) okConcat rfl fun A L cdv lo hk => ⟨_, _, exs_cons
    (ex_if_false (eb_not (t := true) (eb_ev (ev_call (ev_blt (u := .builtin "hasattr") hk rfl (by (repeat (first | exact List.Mem.head _ | refine List.Mem.tail _ ?_))) (by (repeat (first | exact List.Mem.head _ | refine List.Mem.tail _ ?_))) rfl) (evs_cons (ev_var rfl hk rfl) (evs_cons ev_str evs_nil rfl) rfl) hasattr_list_ok (.inl ⟨_, rfl⟩) rfl) true_bool)) exs_nil)
    (cons_ret (ex_ret (ev_bin (ev_var rfl hk rfl) (ev_var rfl hk rfl) (bin_add_list h))))⟩
theorem fn_b1 {n : Nat} : FN prog w topI dB1 1 [.str ⟨#[n]⟩] (.bool (decide ((n : Int) ∈ b1L))) :=
  fn_intro (by simp [topI]) okB1 rfl fun A L cdv lo hk => ⟨_, _, cons_ret (ex_ret (ev_cmp
    (ev_call (ev_blt (u := .builtin "ord") hk rfl (by (repeat (first | exact List.Mem.head _ | refine List.Mem.tail _ ?_))) (by (repeat (first | exact List.Mem.head _ | refine List.Mem.tail _ ?_))) rfl) (evs_cons (ev_var rfl hk rfl) evs_nil rfl) call_ord (.inl ⟨_, rfl⟩) rfl) (ev_glob (u := .ref 127) hk rfl (by (repeat (first | exact List.Mem.head _ | refine List.Mem.tail _ ?_))) rfl)
    (cmp_in_set (S := fun i => decide (i ∈ b1L)) (n := 27) (by (repeat (first | exact List.Mem.head _ | refine List.Mem.tail _ ?_)))) rfl))⟩
noncomputable def foldB3 (n : Nat) : Str := (b3T.lookup (n : Int)).getD (Txt.lower ⟨#[n]⟩)
theorem fn_b3 {n : Nat} (hn : (Txt.lower ⟨#[n]⟩).length ≤ 100000) : FN prog w topI dB3 1 [.str ⟨#[n]⟩] (.str (foldB3 n)) :=
  fn_intro (by simp [topI]) okB3 rfl fun A L cdv lo hk => by
    have get : EV ⟨prog, w, A, envC dB3 L cdv, 0, topI, lo⟩ (bindR ["code"] [.str ⟨#[n]⟩] []) (.Call (.Attribute (.Name "b3_exceptions" ⟨58, 8, 58, 21⟩) "get" ⟨58, 8, 58, 25⟩) [.Call (.Name "ord" ⟨58, 26, 58, 29⟩) [.Name "code" ⟨58, 30, 58, 34⟩] [] ⟨58, 26, 58, 35⟩] [] ⟨58, 8, 58, 36⟩) (optStr (b3T.lookup (n : Int))) :=
      ev_meth (ev_glob (u := .ref 138) hk rfl (by (repeat (first | exact List.Mem.head _ | refine List.Mem.tail _ ?_))) rfl) (evs_cons (ev_call (ev_blt (u := .builtin "ord") hk rfl (by (repeat (first | exact List.Mem.head _ | refine List.Mem.tail _ ?_))) (by (repeat (first | exact List.Mem.head _ | refine List.Mem.tail _ ?_))) rfl) (evs_cons (ev_var rfl hk rfl) evs_nil rfl) call_ord (.inl ⟨_, rfl⟩) rfl) evs_nil rfl) (meth_get (by (repeat (first | exact List.Mem.head _ | refine List.Mem.tail _ ?_)))) rfl (by decide) rfl rfl
    cases hl : b3T.lookup (n : Int) with
    | some x =>
      rw [hl] at get
      have e : foldB3 n = x := by unfold foldB3; rw [hl]; rfl
      rw [e]
      exact ⟨_, _, exs_cons (ex_assign get hk (.inl rfl) (by simp [Own.name]) rfl) (cons_ret (ex_if_true (eb_cmp (ev_var (p := .str x) rfl hk rfl) ev_none cmp_isNot_none_str rfl) (cons_ret (ex_ret (ev_var rfl hk rfl)))))⟩
    | none =>
      rw [hl] at get
      have e : foldB3 n = Txt.lower ⟨#[n]⟩ := by unfold foldB3; rw [hl]; rfl
      rw [e]
      refine ⟨_, _, exs_cons (ex_assign get hk (.inl rfl) (by simp [Own.name]) rfl) (exs_cons (ex_if_false (eb_cmp (ev_var (p := .none) rfl hk rfl) ev_none cmp_isNot_none_none rfl) exs_nil) (cons_ret (ex_ret ?_)))⟩
      exact ev_plain (ev_meth (ev_var rfl hk rfl) evs_nil (meth_lower hn) rfl (by decide) rfl rfl)
end
end Mine
end
section
open PySem PySem.W PySem.Calls PyProof.Rows PySem.Spec
set_option maxRecDepth 100000
namespace Mine
theorem SubR.nil {ρ : Rho} : SubR [] ρ := fun _ _ e => by simp at e
theorem SubR.cons {ρ r : Rho} {a : Str} {p : PV} (h : ρ.lookup a = some p) (t : SubR r ρ) : SubR ((a, p) :: r) ρ := fun x q e => by
  by_cases z : x = a
  · subst z
    simp only [List.lookup_cons, beq_self_eq_true] at e
    cases e; exact h
  · have z' : (x == a) = false := beq_eq_false_iff_ne.mpr z
    simp only [List.lookup_cons, z'] at e
    exact t x q e
noncomputable def nthS (l : List Stmt) (i : Nat) : Stmt := l.getD i (.Pass ⟨0, 0, 0, 0⟩)
noncomputable def forBody : Stmt → List Stmt
  | .For _ _ b _ _ => b
  | .While _ b _ _ => b
  | .If _ b _ _ => b
  | _ => []
noncomputable def elseBody : Stmt → List Stmt
  | .For _ _ _ b _ => b
  | .If _ _ b _ => b
  | _ => []
noncomputable def whTest : Stmt → Expr
  | .While t _ _ _ => t
  | _ => .Constant .none 0 ⟨0, 0, 0, 0⟩
section
variable {prog : Program} {w : World}
noncomputable def countS (y : Str) : List Str → Nat
  | [] => 0
  | x :: r => (if eqS x y then 1 else 0) + countS y r
theorem fn_count {x y : Str} : FN prog w topI dCount 1 [.str x, .imm (.strC y)] (.int (countS y (chars x))) :=
  fn_intro (by simp [topI]) okCount rfl fun A L cdv lo hk => by
    have main : ∀ T, EXs ⟨prog, w, A, envC dCount L cdv, 0, topI, T⟩ dCount.body [("b", .imm (.strB y T)), ("a", .str x)] .none (.ret (.int (countS y (chars x)))) [] .none := by
      intro T
      let c : Cx := ⟨prog, w, A, envC dCount L cdv, 0, topI, T⟩
      let ρb : Rho := [("b", .imm (.strB y T)), ("a", .str x)]
      have loop : ∀ (l : List Str) (k : Nat), ForRun c "i" (forBody (nthS dCount.body 1)) (l.map fun z => .imm (.strN z T)) (("count", .int k) :: ρb) .none .next (("count", .int ((k + countS y l : Nat) : Int)) :: ρb) .none := by
        intro l
        induction l with
        | nil => intro k; exact .nil
        | cons z l ih =>
          intro k
          refine .next (ρ₁ := ("count", .int ((k + (if eqS z y then 1 else 0) : Nat) : Int)) :: ρb) (ow₁ := .none) (by simp [Own.name]) ?_ ?_
          · refine exs_cons (ρ' := ("count", .int ((k + (if eqS z y then 1 else 0) : Nat) : Int)) :: ρb) ?_ exs_nil
            refine ex_if (eb_is_or_eq (ev_var (p := .imm (.strN z T)) rfl hk rfl) (ev_var (p := .imm (.strB y T)) rfl hk rfl) (ev_plain (ev_var (p := .imm (.strN z T)) rfl hk rfl)) (ev_plain (ev_var (p := .imm (.strB y T)) rfl hk rfl)) rfl rfl) (fun h => ?_) (fun h => ?_)
            · rw [if_pos h]
              exact exs_cons (ex_weakR (by repeat' (first | exact SubR.nil | refine SubR.cons rfl ?_)) (ex_aug (p := .int k) rfl ev_int inp_add_int hk (.inl rfl) (by simp [Own.name]))) exs_nil
            · rw [if_neg (by rw [h]; exact Bool.false_ne_true)]
              exact exs_weakR (by repeat' (first | exact SubR.nil | refine SubR.cons rfl ?_)) exs_nil
          · have := ih (k + if eqS z y then 1 else 0)
            have e : k + (if eqS z y then 1 else 0) + countS y l = k + countS y (z :: l) := by show _ = k + ((if eqS z y then 1 else 0) + countS y l); omega
            rw [e] at this
            exact this
      have l0 := loop (chars x) 0
      rw [Nat.zero_add] at l0
      refine exs_cons (ex_assign (p := .int (0 : Nat)) ev_int hk (.inl rfl) (by simp [Own.name]) rfl) ?_
      refine exs_cons (ex_for (items := (chars x).map fun z => .imm (.strN z T)) (ev_var (p := .str x) rfl hk rfl) (iter_strN (c := c)) l0 hk (.inl rfl) (.inl ⟨rfl, exs_nil⟩) fun _ => rfl) ?_
      exact exs_weakR SubR.nil (cons_ret (ex_ret (ev_var rfl hk rfl)))
    exact ⟨[], .none, exs_mark (c := ⟨prog, w, A, envC dCount L cdv, 0, topI, lo⟩) (ρ := bindR ["a", "b"] [.str x, .imm (.strC y)] []) main⟩
noncomputable def indexS (y : Str) : List Str → Nat
  | [] => 0
  | x :: r => if eqS x y then 0 else indexS y r + 1
theorem fn_index {l : List Str} {y : Str} {T : Nat} (hm : ∃ x ∈ l, eqS x y = true) : FN prog w topI dIndex 1 [.list (l.map fun z => .strB z T), .imm (.strN y T)] (.int (indexS y l)) :=
  fn_intro (by simp [topI]) okIndex rfl fun A L cdv lo hk => by
    let c : Cx := ⟨prog, w, A, envC dIndex L cdv, 0, topI, lo⟩
    let ρb : Rho := [("b", .imm (.strN y T)), ("a", .list (l.map fun z => .strB z T))]
    have loop : ∀ (l : List Str) (k : Nat), (∃ x ∈ l, eqS x y = true) → EnumRun c "i" "j" (forBody (nthS dIndex.body 0)) ρb (.int ((k + indexS y l : Nat) : Int)) k (l.map fun z => .strB z T) := by
      intro l
      induction l with
      | nil => intro k ⟨x, hx, _⟩; cases hx
      | cons z l ih =>
        intro k hm
        have test : EB c (("j", .imm (.strB z T)) :: ("i", .int (k : Int)) :: ρb) (.BoolOp .Or [.Compare (.Name "j" ⟨48, 11, 48, 12⟩) [.Is] [.Name "b" ⟨48, 16, 48, 17⟩] ⟨48, 11, 48, 17⟩, .Compare (.Name "j" ⟨48, 21, 48, 22⟩) [.Eq] [.Name "b" ⟨48, 26, 48, 27⟩] ⟨48, 21, 48, 27⟩] ⟨48, 11, 48, 27⟩) (eqS z y) :=
          eb_is_or_eq' (ev_var (p := .imm (.strB z T)) rfl hk rfl) (ev_var (p := .imm (.strN y T)) rfl hk rfl) (ev_plain (ev_var (p := .imm (.strB z T)) rfl hk rfl)) (ev_plain (ev_var (p := .imm (.strN y T)) rfl hk rfl)) rfl rfl
        cases hz : eqS z y with
        | true =>
          rw [hz] at test
          have e : k + indexS y (z :: l) = k := by show k + (if eqS z y then 0 else indexS y l + 1) = k; rw [if_pos hz]; rfl
          rw [e]
          exact .ret (ρ' := ("j", .imm (.strB z T)) :: ("i", .int (k : Int)) :: ρb) (cons_ret (ex_if_true test (cons_ret (ex_ret (ev_var rfl hk rfl)))))
        | false =>
          rw [hz] at test
          have e : k + indexS y (z :: l) = (k + 1) + indexS y l := by show k + (if eqS z y then 0 else indexS y l + 1) = _; rw [if_neg (by rw [hz]; exact Bool.false_ne_true)]; omega
          rw [e]
          refine .next (exs_cons (ex_if_false test exs_nil) (exs_weakR (by repeat' (first | exact SubR.nil | refine SubR.cons rfl ?_)) exs_nil)) (ih (k + 1) ?_)
          obtain ⟨x, hx, hxy⟩ := hm
          rcases List.mem_cons.mp hx with rfl | hx
          · rw [hz] at hxy; cases hxy
          · exact ⟨x, hx, hxy⟩
    have l0 := loop l 0 hm
    rw [Nat.zero_add] at l0
    exact ⟨[], .none, cons_ret (ex_for_enum (ev_blt (u := .type "enumerate") hk rfl (by (repeat (first | exact List.Mem.head _ | refine List.Mem.tail _ ?_))) (by (repeat (first | exact List.Mem.head _ | refine List.Mem.tail _ ?_))) rfl) (ev_var rfl hk rfl) hk (.inl rfl) (.inl rfl) rfl rfl rfl (fun _ => rfl) l0)⟩
end
end Mine
end
section
open PySem PySem.W PySem.Calls PyProof.Rows PySem.Spec
set_option maxRecDepth 100000
namespace Mine
theorem bitAnd_nat (a b : Nat) : Builtin.bitAnd (a : Int) (b : Int) = ((a &&& b : Nat) : Int) := by
  unfold Builtin.bitAnd
  rw [decide_eq_true (Int.natCast_nonneg a), decide_eq_true (Int.natCast_nonneg b)]
  simp
theorem bitOr_nat (a b : Nat) : Builtin.bitOr (a : Int) (b : Int) = ((a ||| b : Nat) : Int) := by
  unfold Builtin.bitOr Builtin.bitAnd Builtin.bitNot
  rw [decide_eq_false (by omega), decide_eq_false (by omega)]
  simp only
  have e1 : (-(-(a : Int) - 1) - 1).toNat = a := by omega
  have e2 : (-(-(b : Int) - 1) - 1).toNat = b := by omega
  rw [e1, e2]
  omega
theorem and_two_pow {f i : Nat} (h : f.testBit i = true) : f &&& 2 ^ i = 2 ^ i := by
  apply Nat.eq_of_testBit_eq
  intro j
  rw [Nat.testBit_and, Nat.testBit_two_pow]
  by_cases hij : i = j
  · subst hij; simp [h]
  · simp [hij]
theorem and_two_pow0 {f i : Nat} (h : f.testBit i = false) : f &&& 2 ^ i = 0 := by
  apply Nat.eq_of_testBit_eq
  intro j
  rw [Nat.testBit_and, Nat.testBit_two_pow]
  by_cases hij : i = j
  · subst hij; simp [h]
  · simp [hij]
theorem or_two_pow {f i : Nat} (h : f.testBit i = true) : f ||| 2 ^ i = f := by
  apply Nat.eq_of_testBit_eq
  intro j
  rw [Nat.testBit_or, Nat.testBit_two_pow]
  by_cases hij : i = j
  · subst hij; simp [h]
  · simp [hij]
theorem two_pow_le {f i : Nat} (h : f.testBit i = true) : 2 ^ i ≤ f := by
  have := and_two_pow h
  rw [← this]; exact Nat.and_le_left
theorem bitXor_two_pow {f i : Nat} (h : f.testBit i = true) : Builtin.bitXor (f : Int) ((2 ^ i : Nat) : Int) = ((f - 2 ^ i : Nat) : Int) := by
  unfold Builtin.bitXor
  rw [bitOr_nat, bitAnd_nat, or_two_pow h, and_two_pow h]
  have := two_pow_le h
  omega
noncomputable def hexS (n : Nat) : Str := baseText "0x" 16 (n : Int)
noncomputable def flagName (i : Nat) : Str := (flagT.lookup ((2 ^ i : Nat) : Int)).getD (hexS (2 ^ i))
noncomputable def pfN : Nat → Nat → Nat → List Str → List Str
  | 0, _, f, acc => acc ++ [hexS f]
  | k + 1, i, f, acc => if f.testBit i = true then (if f - 2 ^ i = 0 then acc ++ [flagName i] else pfN k (i + 1) (f - 2 ^ i) (acc ++ [flagName i])) else pfN k (i + 1) f acc
theorem hexS_len {n : Nat} (h : n < 2 ^ 200) : (hexS n).length ≤ 53 := by
  have e : (16 : Nat) ^ 50 = 2 ^ 200 := by decide
  have h1 := toDigits_len_pow (b := 16) (k := 50) (n := n) (by decide) (by decide) (by rw [e]; exact h)
  have h5 : (n : Int).natAbs = n := by omega
  unfold hexS baseText
  rw [Str.length_append, Str.length_append, h5, ofString_ofList_length (Nat.toDigits 16 n)]
  have h3 : (Str.ofString (if (n : Int) < 0 then "-" else "")).length ≤ 1 := by
    split <;> (rw [PyProof.Rows.ofString_len]; decide)
  have h4 : (Str.ofString "0x").length = 2 := by rw [PyProof.Rows.ofString_len]; decide
  omega
theorem flagT_len : ∀ p ∈ flagT, p.2.length ≤ 53 := by decide +kernel
theorem lookup_mem {α β : Type} [BEq α] [LawfulBEq α] {k : α} {b : β} : ∀ {l : List (α × β)}, l.lookup k = some b → ∃ p ∈ l, p.2 = b
  | [], h => by simp at h
  | (x, y) :: l, h => by
    by_cases e : k = x
    · subst e
      simp only [List.lookup_cons, beq_self_eq_true] at h
      cases h; exact ⟨_, List.mem_cons_self, rfl⟩
    · have e' : (k == x) = false := beq_eq_false_iff_ne.mpr e
      simp only [List.lookup_cons, e'] at h
      obtain ⟨p, hp, q⟩ := lookup_mem h
      exact ⟨p, List.mem_cons_of_mem _ hp, q⟩
theorem flagName_len {i : Nat} (hi : i < 200) : (flagName i).length ≤ 53 := by
  unfold flagName
  cases h : flagT.lookup ((2 ^ i : Nat) : Int) with
  | none => exact hexS_len (Nat.pow_lt_pow_right (by decide) hi)
  | some x =>
    obtain ⟨p, hp, e⟩ := lookup_mem h
    rw [← e]; exact flagT_len p hp
theorem pfN_len : ∀ (k i f : Nat) (acc : List Str), i + k ≤ 200 → f < 2 ^ 200 → (∀ x ∈ acc, x.length ≤ 53) → (∀ x ∈ pfN k i f acc, x.length ≤ 53) ∧ (pfN k i f acc).length ≤ acc.length + k + 1
  | 0, i, f, acc, hi, hf, ha => by
    refine ⟨fun x hx => ?_, by simp [pfN]⟩
    rcases List.mem_append.mp hx with hx | hx
    · exact ha x hx
    · rw [List.mem_singleton.mp hx]; exact hexS_len hf
  | k + 1, i, f, acc, hi, hf, ha => by
    have ha' : ∀ x ∈ acc ++ [flagName i], x.length ≤ 53 := fun x hx => by
      rcases List.mem_append.mp hx with hx | hx
      · exact ha x hx
      · rw [List.mem_singleton.mp hx]; exact flagName_len (by omega)
    unfold pfN
    split
    · split
      · exact ⟨ha', by simp⟩
      · have := pfN_len k (i + 1) (f - 2 ^ i) (acc ++ [flagName i]) (by omega) (Nat.lt_of_le_of_lt (Nat.sub_le _ _) hf) ha'
        refine ⟨this.1, Nat.le_trans this.2 (by simp; omega)⟩
    · have := pfN_len k (i + 1) f acc (by omega) hf ha
      exact ⟨this.1, Nat.le_trans this.2 (by omega)⟩
theorem sum_len_le : ∀ {l : List Str} {m : Nat}, (∀ x ∈ l, x.length ≤ m) → (l.map (·.length)).sum ≤ l.length * m
  | [], m, _ => by simp
  | x :: l, m, h => by
    have h1 := h x List.mem_cons_self
    have h2 := sum_len_le (l := l) fun y hy => h y (List.mem_cons_of_mem _ hy)
    simp only [List.map_cons, List.sum_cons, List.length_cons, Nat.succ_mul]
    omega
noncomputable def prettyS (f : Nat) : Str := Txt.join ", " (pfN 32 0 f [])
section
variable {prog : Program} {w : World}
theorem call_hexN {c : Cx} {n : Nat} (h : n < 2 ^ 200) : CallOK c (.builtin "hex") [.int (n : Int)] (.str (hexS n)) := call_hex (Nat.le_trans (hexS_len h) (by decide))
set_option maxHeartbeats 4000000 in
theorem fn_flags {f : Nat} (hf : f < 2 ^ 200) : FN prog w topI dFlags 1 [.int (f : Int)] (.str (prettyS f)) :=
  fn_intro (by simp [topI]) okFlags rfl fun A L cdv lo hk => by
    let c : Cx := ⟨prog, w, A, envC dFlags L cdv, 0, topI, lo⟩
    have hexE : ∀ {ρ : Rho} {x : Str} {p1 p2 p3 : Pos} {n : Nat}, n < 2 ^ 200 → ρ.lookup x = some (.int (n : Int)) → (x == ("__debug__" : Str)) = false → EV c ρ (.Call (.Name "hex" p1) [.Name x p2] [] p3) (.str (hexS n)) := fun {ρ x p1 p2 p3 n} hn hl hd =>
      ev_call (ev_blt (u := .builtin "hex") hk rfl (by (repeat (first | exact List.Mem.head _ | refine List.Mem.tail _ ?_))) (by (repeat (first | exact List.Mem.head _ | refine List.Mem.tail _ ?_))) rfl) (evs_cons (ev_var hl hk hd) evs_nil rfl) (call_hexN hn) (.inl ⟨_, rfl⟩) rfl
    have loop : ∀ (k i f : Nat) (acc : List Str), i + k ≤ 200 → f < 2 ^ 200 → (∃ n, acc.length ≤ n ∧ n + k ≤ 1000) →
        (∃ acc' f', pfN k i f acc = acc' ++ [hexS f'] ∧ f' < 2 ^ 200 ∧ acc'.length ≤ 1000 ∧ ForRun c "i" (forBody (nthS dFlags.body 1)) ((List.range k).map fun j => .int (((i + j : Nat)) : Int)) [("flags", .int (f : Int))] (.one "names" (acc.map IV.str)) .next [("flags", .int (f' : Int))] (.one "names" (acc'.map IV.str))) ∨
        (ForRun c "i" (forBody (nthS dFlags.body 1)) ((List.range k).map fun j => .int (((i + j : Nat)) : Int)) [("flags", .int (f : Int))] (.one "names" (acc.map IV.str)) .brk [] (.one "names" ((pfN k i f acc).map IV.str))) := by
      intro k
      induction k with
      | zero => intro i f acc hi hf ⟨n, hn, hn'⟩; exact .inl ⟨acc, f, rfl, hf, by omega, .nil⟩
      | succ k ih =>
        intro i f acc hi hf ⟨n, hn, hn'⟩
        have er : (List.range (k + 1)).map (fun j => PV.int (((i + j : Nat)) : Int)) = .int (i : Int) :: (List.range k).map fun j => .int ((((i + 1) + j : Nat)) : Int) := by
          rw [List.range_succ_eq_map, List.map_cons, List.map_map]
          congr 1
          exact List.map_congr_left fun j _ => by show PV.int _ = PV.int _; congr 1; simp only [Nat.succ_eq_add_one]; omega
        rw [er]
        let ρ0 : Rho := [("i", .int (i : Int)), ("flags", .int (f : Int))]
        have hfl : (2 ^ i : Nat) < 2 ^ 200 := Nat.pow_lt_pow_right (by decide) (by omega)
        have e1 : ∀ ow, EX c (nthS (forBody (nthS dFlags.body 1)) 0) ρ0 ow .next (("flag", .int ((2 ^ i : Nat) : Int)) :: ρ0) ow → True := fun _ _ => trivial
        have flagE : EV c ρ0 (.BinOp (.Constant (.int 1) 0 ⟨13, 15, 13, 16⟩) .LShift (.Name "i" ⟨13, 20, 13, 21⟩) ⟨13, 15, 13, 21⟩) (.int ((2 ^ i : Nat) : Int)) := by
          have := ev_bin (pos := ⟨13, 15, 13, 21⟩) (ev_int (c := c) (ρ := ρ0) (i := 1) (k := 0) (pos := ⟨13, 15, 13, 16⟩)) (ev_var (x := "i") (pos := ⟨13, 20, 13, 21⟩) (p := .int (i : Int)) rfl hk rfl) (bin_shl_int (x := 1) (by omega) (by
            have : Builtin.Int.intBits 1 = 1 := by decide +kernel
            rw [this]; omega))
          rw [Int.toNat_natCast, Int.one_mul] at this
          rw [Int.natCast_pow]; exact this
        let ρ1 : Rho := ("flag", .int ((2 ^ i : Nat) : Int)) :: ρ0
        have a1 : EX c (nthS (forBody (nthS dFlags.body 1)) 0) ρ0 (.one "names" (acc.map IV.str)) .next ρ1 (.one "names" (acc.map IV.str)) := ex_assign flagE hk (.inl rfl) (by simp [Own.name]; decide) rfl
        have andE : EV c ρ1 (.BinOp (.Name "flags" ⟨14, 11, 14, 16⟩) .BitAnd (.Name "flag" ⟨14, 19, 14, 23⟩) ⟨14, 11, 14, 23⟩) (.int ((f &&& 2 ^ i : Nat) : Int)) := by
          have := ev_bin (pos := ⟨14, 11, 14, 23⟩) (ev_var (c := c) (ρ := ρ1) (x := "flags") (pos := ⟨14, 11, 14, 16⟩) (p := .int (f : Int)) rfl hk rfl) (ev_var (x := "flag") (pos := ⟨14, 19, 14, 23⟩) (p := .int ((2 ^ i : Nat) : Int)) rfl hk rfl) bin_and_int
          rw [bitAnd_nat] at this
          exact this
        cases hb : f.testBit i with
        | false =>
          have hz : (((f &&& 2 ^ i : Nat) : Int) != 0) = false := by rw [and_two_pow0 hb]; rfl
          have tE := eb_ev andE (true_int (c := c)) rfl
          rw [hz] at tE
          have step : ForRun c "i" (forBody (nthS dFlags.body 1)) ((List.range k).map fun j => .int ((((i + 1) + j : Nat)) : Int)) [("flags", .int (f : Int))] (.one "names" (acc.map IV.str)) = ForRun c "i" (forBody (nthS dFlags.body 1)) ((List.range k).map fun j => .int ((((i + 1) + j : Nat)) : Int)) [("flags", .int (f : Int))] (.one "names" (acc.map IV.str)) := rfl
          have body : EXs c (forBody (nthS dFlags.body 1)) (("i", .int (i : Int)) :: [("flags", .int (f : Int))]) (.one "names" (acc.map IV.str)) .next [("flags", .int (f : Int))] (.one "names" (acc.map IV.str)) :=
            exs_cons a1 (exs_cons (ex_if_false tE exs_nil) (exs_weakR (by repeat' (first | exact SubR.nil | refine SubR.cons rfl ?_)) exs_nil))
          have e : pfN (k + 1) i f acc = pfN k (i + 1) f acc := by rw [pfN, if_neg (by rw [hb]; exact Bool.false_ne_true)]
          rw [e]
          rcases ih (i + 1) f acc (by omega) hf ⟨n, hn, by omega⟩ with ⟨acc', f', h1, h2, h3, h4⟩ | h
          · exact .inl ⟨acc', f', h1, h2, h3, .next (by simp [Own.name]; decide) body h4⟩
          · exact .inr (.next (by simp [Own.name]; decide) body h)
        | true =>
          have hpos : 0 < 2 ^ i := Nat.pow_pos (by decide)
          have hz : (((f &&& 2 ^ i : Nat) : Int) != 0) = true := by
            rw [and_two_pow hb]
            exact bne_iff_ne.mpr (by omega)
          have tE := eb_ev andE (true_int (c := c)) rfl
          rw [hz] at tE
          have nameE : EV c ρ1 (.Call (.Attribute (.Name "COMPILER_FLAG_NAMES" ⟨15, 25, 15, 44⟩) "get" ⟨15, 25, 15, 48⟩) [.Name "flag" ⟨15, 49, 15, 53⟩, .Call (.Name "hex" ⟨15, 55, 15, 58⟩) [.Name "flag" ⟨15, 59, 15, 63⟩] [] ⟨15, 55, 15, 64⟩] [] ⟨15, 25, 15, 65⟩) (.str (flagName i)) :=
            ev_meth (ev_glob (u := .ref 49) hk rfl (by (repeat (first | exact List.Mem.head _ | refine List.Mem.tail _ ?_))) rfl) (evs_cons (ev_var (p := .int ((2 ^ i : Nat) : Int)) rfl hk rfl) (evs_cons (hexE hfl rfl rfl) evs_nil rfl) rfl) (meth_get2 (by (repeat (first | exact List.Mem.head _ | refine List.Mem.tail _ ?_)))) rfl (by decide) rfl rfl
          have app : EX c (nthS (forBody (nthS (forBody (nthS dFlags.body 1)) 1)) 0) ρ1 (.one "names" (acc.map IV.str)) .next ρ1 (.one "names" ((acc ++ [flagName i]).map IV.str)) := by
            rw [List.map_append]
            exact ex_own_append hk nameE rfl rfl (by rw [List.length_map]; omega) rfl rfl rfl rfl rfl rfl
          let ρ2 : Rho := ("flags", .int ((f - 2 ^ i : Nat) : Int)) :: ρ1
          have xr : EX c (nthS (forBody (nthS (forBody (nthS dFlags.body 1)) 1)) 1) ρ1 (.one "names" ((acc ++ [flagName i]).map IV.str)) .next ρ2 (.one "names" ((acc ++ [flagName i]).map IV.str)) := by
            have := ex_aug (c := c) (ρ := ρ1) (ow := .one "names" ((acc ++ [flagName i]).map IV.str)) (x := "flags") (px := ⟨16, 12, 16, 17⟩) (pos := ⟨16, 12, 16, 25⟩) (op := .BitXor) (p := .int (f : Int)) rfl (ev_var (x := "flag") (pos := ⟨16, 21, 16, 25⟩) (p := .int ((2 ^ i : Nat) : Int)) rfl hk rfl) inp_xor_int hk (.inl rfl) (by simp [Own.name]; decide)
            rw [bitXor_two_pow hb] at this
            exact this
          have nt : EB c ρ2 (.UnaryOp .Not (.Name "flags" ⟨17, 19, 17, 24⟩) ⟨17, 15, 17, 24⟩) (decide (f - 2 ^ i = 0)) := by
            have := eb_not (pos := ⟨17, 15, 17, 24⟩) (eb_ev (ev_var (c := c) (ρ := ρ2) (x := "flags") (pos := ⟨17, 19, 17, 24⟩) (p := .int ((f - 2 ^ i : Nat) : Int)) rfl hk rfl) (true_int (c := c)) rfl)
            have e : (!(((f - 2 ^ i : Nat) : Int) != 0)) = decide (f - 2 ^ i = 0) := by
              by_cases h : f - 2 ^ i = 0
              · rw [h]; rfl
              · have h' : (((f - 2 ^ i : Nat) : Int) != 0) = true := bne_iff_ne.mpr (by omega)
                rw [h', decide_eq_false h]; rfl
            rw [e] at this
            exact this
          by_cases h0 : f - 2 ^ i = 0
          · rw [decide_eq_true h0] at nt
            have e : pfN (k + 1) i f acc = acc ++ [flagName i] := by rw [pfN, if_pos hb, if_pos h0]
            rw [e]
            refine .inr (.brk (by simp [Own.name]; decide) ?_)
            exact exs_weakR SubR.nil (exs_cons a1 (exs_leave (ex_if_true tE (exs_cons app (exs_cons xr (exs_leave (ex_if_true nt (exs_leave ex_brk (by intro h; cases h))) (by intro h; cases h))))) (by intro h; cases h)))
          · rw [decide_eq_false h0] at nt
            have e : pfN (k + 1) i f acc = pfN k (i + 1) (f - 2 ^ i) (acc ++ [flagName i]) := by rw [pfN, if_pos hb, if_neg h0]
            rw [e]
            have body : EXs c (forBody (nthS dFlags.body 1)) (("i", .int (i : Int)) :: [("flags", .int (f : Int))]) (.one "names" (acc.map IV.str)) .next [("flags", .int ((f - 2 ^ i : Nat) : Int))] (.one "names" ((acc ++ [flagName i]).map IV.str)) :=
              exs_cons a1 (exs_cons (ex_if_true tE (exs_cons app (exs_cons xr (exs_cons (ex_if_false nt exs_nil) exs_nil)))) (exs_weakR (by repeat' (first | exact SubR.nil | refine SubR.cons rfl ?_)) exs_nil))
            rcases ih (i + 1) (f - 2 ^ i) (acc ++ [flagName i]) (by omega) (Nat.lt_of_le_of_lt (Nat.sub_le _ _) hf) ⟨n + 1, by simpa using hn, by omega⟩ with ⟨acc', f', h1, h2, h3, h4⟩ | h
            · exact .inl ⟨acc', f', h1, h2, h3, .next (by simp [Own.name]; decide) body h4⟩
            · exact .inr (.next (by simp [Own.name]; decide) body h)
    have start : EX c (nthS dFlags.body 0) [("flags", .int (f : Int))] .none .next [("flags", .int (f : Int))] (.one "names" (([] : List Str).map IV.str)) :=
      ex_own_new hk (.inl rfl) (fun _ _ e => e) rfl rfl _ (.inl rfl)
    have rng : EV c [("flags", .int (f : Int))] (.Call (.Name "range" ⟨12, 13, 12, 18⟩) [.Constant (.int 32) 0 ⟨12, 19, 12, 21⟩] [] ⟨12, 13, 12, 22⟩) (.rng 0 32) :=
      ev_call (ev_blt (u := .type "range") hk rfl (by (repeat (first | exact List.Mem.head _ | refine List.Mem.tail _ ?_))) (by (repeat (first | exact List.Mem.head _ | refine List.Mem.tail _ ?_))) rfl) (evs_cons ev_int evs_nil rfl) call_range1 (.inr (.inl ⟨_, rfl⟩)) rfl
    have items : IterOK c (.rng 0 32) ((List.range 32).map fun j => .int (((0 + j : Nat)) : Int)) := by
      have := iter_rng (c := c) (a := 0) (b := 32) (n := 32) (by decide) (by decide) (by decide)
      have e : ((List.range 32).map fun i => PV.int (0 + (i : Nat))) = ((List.range 32).map fun j => PV.int (((0 + j : Nat)) : Int)) := List.map_congr_left fun j _ => by show PV.int _ = PV.int _; congr 1
      rw [e] at this; exact this
    have fin : ∀ res : List Str, (∀ x ∈ res, x.length ≤ 53) → res.length ≤ 33 → EXs c (dFlags.body.drop 2) [] (.one "names" (res.map IV.str)) (.ret (.str (Txt.join ", " res))) [("names", .list (res.map IV.str))] .none := by
      intro res h1 h2
      have hs := sum_len_le h1
      refine exs_freeze (cons_ret (ex_ret (ev_meth ev_str (evs_cons (ev_var (p := .strs res) rfl hk rfl) evs_nil rfl) (meth_join (ys := res) ?_) rfl (by decide) rfl rfl)))
      have h3 : (Str.ofString ", ").length = 2 := by rw [PyProof.Rows.ofString_len]; decide
      rw [h3]
      omega
    have l0 := loop 32 0 f [] (by decide) hf ⟨0, by simp, by decide⟩
    have hl := pfN_len 32 0 f [] (by decide) hf (fun x hx => nomatch hx)
    have hp : prettyS f = Txt.join ", " (pfN 32 0 f []) := rfl
    rw [hp]
    generalize pfN 32 0 f [] = res at *
    have fin := fin res hl.1 (by simpa using hl.2)
    generalize hres : PV.str (Txt.join ", " res) = pres at *
    rcases l0 with ⟨acc', f', h1, h2, h3, h4⟩ | h
    · refine ⟨_, _, exs_cons start (exs_cons (ex_for (ρ'' := []) (ow'' := .one "names" (res.map IV.str)) rng items h4 hk (.inl rfl) (.inl ⟨rfl, ?_⟩) fun _ => rfl) fin)⟩
      rw [h1, List.map_append]
      exact exs_cons (ex_own_append hk (hexE h2 rfl rfl) rfl rfl (by rw [List.length_map]; omega) rfl rfl rfl rfl rfl rfl) (exs_weakR SubR.nil exs_nil)
    · exact ⟨_, _, exs_cons start (exs_cons (ex_for rng items h hk (.inl rfl) (.inr (.inl ⟨rfl, rfl, rfl, rfl⟩)) fun _ => rfl) fin)⟩
end
end Mine
end
section
open PySem PySem.W PySem.Calls PyProof.Rows PySem.Spec
set_option maxRecDepth 100000
namespace Mine
noncomputable def hidA : Str := match (nthS dHidden.body 0) with
  | .Return (some (.BinOp a _ _ _)) _ => strC a
  | _ => ⟨#[]⟩
noncomputable def hiddenS : Str := hidA ++ Txt.join "" ((List.range 16).map fun k => ⟨#[65024 + k]⟩)
noncomputable def namA : List Str := match (nthS dNames.body 0) with
  | .Return (some (.BinOp (.List es _) _ _ _)) _ => es.map strC
  | _ => []
noncomputable def namesL : List Str := namA ++ (List.range 22).map fun k => hexS (2 ^ (10 + k))
theorem range_items {c : Cx} {a n : Nat} (h : a + n < 2 ^ 59) : IterOK c (.rng (a : Int) ((a + n : Nat) : Int)) ((List.range n).map fun j => .int (((a + j : Nat)) : Int)) := by
  have := iter_rng (c := c) (a := a) (b := ((a + n : Nat) : Int)) (n := n) (by omega) (by omega) (by omega)
  have e : ((List.range n).map fun i => PV.int ((a : Int) + (i : Nat))) = ((List.range n).map fun j => PV.int (((a + j : Nat)) : Int)) := List.map_congr_left fun j _ => by show PV.int _ = PV.int _; congr 1
  rw [e] at this; exact this
theorem pickL_map {α β : Type} (f : α → β) (l : List α) (lo hi st : Option Int) : pickL (l.map f) lo hi st = (pickL l lo hi st).map f := by
  unfold pickL
  rw [List.length_map]
  generalize sliceRange _ _ _ = is
  induction is with
  | nil => rfl
  | cons i r ih =>
    rw [List.filterMap_cons, List.filterMap_cons, List.getElem?_map]
    cases l[i]? with
    | none => exact ih
    | some a => simp only [Option.map_some, List.map_cons]; rw [ih]
noncomputable def retE : Stmt → Expr
  | .Return (some e) _ => e
  | .Assign _ e _ => e
  | _ => .Constant .none 0 ⟨0, 0, 0, 0⟩
noncomputable def scopeOf : Expr → Scope
  | .ListComp _ _ s _ => s
  | _ => PySem.Challenge.pw_ta0049_01.main.scope
theorem ev_to {c : Cx} {ρ : Rho} {e : Expr} {p p' : PV} (h : EV c ρ e p) (q : p = p') : EV c ρ e p' := q ▸ h
section
variable {prog : Program} {w : World}
set_option maxHeartbeats 2000000 in
theorem fn_hidden : FN prog w topI dHidden 1 [] (.str hiddenS) :=
  fn_intro (by simp [topI]) okHidden rfl fun A L cdv lo hk => by
    let c : Cx := ⟨prog, w, A, envC dHidden L cdv, 0, topI, lo⟩
    have hl : (((List.range 16).map fun k => (⟨#[65024 + k]⟩ : Str)).map (·.length)).sum + ((List.range 16).map fun k => (⟨#[65024 + k]⟩ : Str)).length * (Str.ofString "").length ≤ 16777216 := by decide +kernel
    have run : ∀ (scope : Scope) (cl : List (Str × Addr)) C, (compEnvC scope cl C c.env).kindOf "k" = some .local → (compEnvC scope cl C c.env).kindOf "chr" = some .globalImplicit → EnvOK (compEnvC scope cl C c.env) → ∀ p1 p2 p3 p4 p5, CompRun c (compEnvC scope cl C c.env) (actElt (.Call (.Name "chr" p1) [.BinOp (.Constant (.int 65024) 0 p2) .Add (.Name "k" p3) p4] [] p5) (compEnvC scope cl C c.env)) "k" [] ((List.range 16).map fun j => .int (((0 + j : Nat)) : Int)) (((List.range 16).map fun k => (⟨#[65024 + k]⟩ : Str)).map IV.str) := by
      intro scope cl C h1 h2 h3 p1 p2 p3 p4 p5
      rw [List.map_map]
      refine run_map _ fun y hy => ?_
      have hy' : y < 16 := List.mem_range.mp hy
      have e : ((65024 : Int) + ((0 + y : Nat) : Int)) = ((65024 + y : Nat) : Int) := by omega
      have := ev_bin (pos := p4) (ev_int (c := { c with env := compEnvC scope cl C c.env }) (ρ := [("k", .int (((0 + y : Nat)) : Int))]) (i := 65024) (k := 0) (pos := p2)) (ev_var (x := "k") (pos := p3) (p := .int (((0 + y : Nat)) : Int)) rfl h3 rfl) bin_add_int
      rw [e] at this
      exact ev_call (ev_blt (u := .builtin "chr") h3 h2 (by (repeat (first | exact List.Mem.head _ | refine List.Mem.tail _ ?_))) (by (repeat (first | exact List.Mem.head _ | refine List.Mem.tail _ ?_))) rfl) (evs_cons this evs_nil rfl) (call_chr (by omega)) (.inl ⟨_, rfl⟩) rfl
    have E : ∃ p, EV c (bindR [] [] []) (retE (nthS dHidden.body 0)) p ∧ p = PV.str hiddenS := by
      refine ⟨_, ev_bin ev_str (ev_meth ev_str (evs_cons (ev_comp [] [] rfl (ev_call (ev_blt (u := .type "range") hk rfl (by (repeat (first | exact List.Mem.head _ | refine List.Mem.tail _ ?_))) (by (repeat (first | exact List.Mem.head _ | refine List.Mem.tail _ ?_))) rfl) (evs_cons ev_int evs_nil rfl) call_range1 (.inr (.inl ⟨_, rfl⟩)) rfl) (range_items (a := 0) (n := 16) (by decide)) hk (fun C => run _ _ C rfl rfl ⟨rfl, rfl, rfl⟩ _ _ _ _ _) (fun C => rule_elt) (by simp) rfl (by decide) (fun _ => rfl) (by decide) rfl rfl rfl SubR.nil (fun _ => trivial)) evs_nil rfl) (meth_join hl) rfl (by decide) rfl rfl) (bin_add_str ?_), ?_⟩
      · decide +kernel
      · kernel_rfl
    obtain ⟨p, E, rfl⟩ := E
    exact ⟨_, _, cons_ret (ex_ret E)⟩
theorem names_lens : (namA ++ (List.range 22).map fun k => hexS (2 ^ (10 + k))).length = 32 := by decide +kernel
theorem fn_names : FN prog w topI dNames 1 [] (.strs namesL) :=
  fn_intro (by simp [topI]) okNames rfl fun A L cdv lo hk => by
    let c : Cx := ⟨prog, w, A, envC dNames L cdv, 0, topI, lo⟩
    have run : ∀ (scope : Scope) (cl : List (Str × Addr)) C, (compEnvC scope cl C c.env).kindOf "k" = some .local → (compEnvC scope cl C c.env).kindOf "hex" = some .globalImplicit → EnvOK (compEnvC scope cl C c.env) → ∀ p1 p2 p3 p4 p5, CompRun c (compEnvC scope cl C c.env) (actElt (.Call (.Name "hex" p1) [.BinOp (.Constant (.int 2) 0 p2) .Pow (.Name "k" p3) p4] [] p5) (compEnvC scope cl C c.env)) "k" [] ((List.range 22).map fun j => .int (((10 + j : Nat)) : Int)) (((List.range 22).map fun k => hexS (2 ^ (10 + k))).map IV.str) := by
      intro scope cl C h1 h2 h3 p1 p2 p3 p4 p5
      rw [List.map_map]
      refine run_map _ fun y hy => ?_
      have hy' : y < 22 := List.mem_range.mp hy
      have := ev_bin (pos := p4) (ev_int (c := { c with env := compEnvC scope cl C c.env }) (ρ := [("k", .int (((10 + y : Nat)) : Int))]) (i := 2) (k := 0) (pos := p2)) (ev_var (x := "k") (pos := p3) (p := .int (((10 + y : Nat)) : Int)) rfl h3 rfl) (bin_pow2 (by omega))
      have e : ((2 : Int) ^ (10 + y)) = ((2 ^ (10 + y) : Nat) : Int) := by rw [Int.natCast_pow]; rfl
      rw [e] at this
      exact ev_call (ev_blt (u := .builtin "hex") h3 h2 (by (repeat (first | exact List.Mem.head _ | refine List.Mem.tail _ ?_))) (by (repeat (first | exact List.Mem.head _ | refine List.Mem.tail _ ?_))) rfl) (evs_cons this evs_nil rfl) (call_hexN (Nat.pow_lt_pow_right (by decide) (by omega))) (.inl ⟨_, rfl⟩) rfl
    have E : ∃ p, EV c (bindR [] [] []) (retE (nthS dNames.body 0)) p ∧ p = PV.strs namesL := by
      refine ⟨_, ev_bin (ev_list (l := namA.map IV.str) ?_ ?_) (ev_comp [] [] rfl (ev_call (ev_blt (u := .type "range") hk rfl (by (repeat (first | exact List.Mem.head _ | refine List.Mem.tail _ ?_))) (by (repeat (first | exact List.Mem.head _ | refine List.Mem.tail _ ?_))) rfl) (evs_cons ev_int (evs_cons ev_int evs_nil rfl) rfl) call_range2 (.inr (.inl ⟨_, rfl⟩)) rfl) (range_items (a := 10) (n := 22) (by decide)) hk (fun C => run _ _ C rfl rfl ⟨rfl, rfl, rfl⟩ _ _ _ _ _) (fun C => rule_elt) (by simp) rfl (by decide) (fun _ => rfl) (by decide) rfl rfl rfl SubR.nil (fun _ => trivial)) (bin_add_list ?_), ?_⟩
      · show EVs c _ _ [.str _, .str _, .str _, .str _, .str _, .str _, .str _, .str _, .str _, .str _]
        exact evs_cons ev_str (evs_cons ev_str (evs_cons ev_str (evs_cons ev_str (evs_cons ev_str (evs_cons ev_str (evs_cons ev_str (evs_cons ev_str (evs_cons ev_str (evs_cons ev_str evs_nil rfl) rfl) rfl) rfl) rfl) rfl) rfl) rfl) rfl) rfl
      · decide +kernel
      · decide +kernel
      · unfold PV.strs namesL
        rw [List.map_append]
    obtain ⟨p, E, rfl⟩ := E
    exact ⟨_, _, cons_ret (ex_ret E)⟩
noncomputable def firstL : List Int := [62, 7019, 83, 1265, 108]
noncomputable def cellsOf (l : List Int) : List Int := (List.range 5).map fun k => firstL.getD k 0 + ((pickL l (some (k : Int)) none (some 5)).map (·.fmod 1000000)).sum
theorem pickL_mem {α : Type} {l : List α} {lo hi st : Option Int} {x : α} (h : x ∈ pickL l lo hi st) : x ∈ l := by
  unfold pickL at h
  obtain ⟨i, _, hi⟩ := List.mem_filterMap.mp h
  exact List.mem_of_getElem? hi
theorem pickL_le {α : Type} (l : List α) (k : Nat) : (pickL l (some (k : Int)) none (some 5)).length ≤ l.length + 1 := by
  unfold pickL
  refine Nat.le_trans (List.length_filterMap_le _ _) ?_
  unfold sliceRange
  rw [List.length_map, List.length_range]
  unfold sliceBounds
  simp only [Option.getD_some, show (5 : Int) > 0 by decide, if_true]
  split <;> omega
noncomputable def clOf (scope : Scope) (env : Env) : List (Str × Addr) := scope.names.foldl (fun cs x => if x.2 == .free then (x.1, (env.cells.lookup x.1).getD 0) :: cs else cs) []
theorem fn_cells {l : List Int} (hl : l.length ≤ 63) : FN prog w topI dCells 1 [.ints l] (.ints (cellsOf l)) :=
  fn_intro (by simp [topI]) okCells rfl fun A L cdv lo hk => by
    let c : Cx := ⟨prog, w, A, envC dCells L cdv, 0, topI, lo⟩
    let ρc : Rho := [("first", .ints firstL), ("script", .ints l)]
    have a1 : EX c (nthS dCells.body 0) [("script", .ints l)] .none .next ρc .none := by
      refine ex_assign (ev_list (l := firstL.map IV.int) ?_ (by decide)) hk (.inr ⟨rfl, rfl⟩) (by simp [Own.name]) rfl
      exact evs_cons ev_int (evs_cons ev_int (evs_cons ev_int (evs_cons ev_int (evs_cons ev_int evs_nil rfl) rfl) rfl) rfl) rfl
    have inner : ∀ (env1 : Env) (k : Nat), k < 5 → EnvOK env1 → env1.kindOf "sum" = some .globalImplicit → ∀ (scope2 : Scope), closureFor scope2 env1 = pure [] → (∀ y ∈ scope2.names, y.2 = .local → scope2.names.lookup y.1 = some .local) → (∀ y ∈ scope2.names, y.2 ≠ .cell) → scope2.kind = .function → scope2.names.lookup (Str.ofString "x") = some NameKind.local →
        ∀ p0 p1 p2 p3 p4 p5 p6 p7 p8 p9 p10 p11 p12 p13 p14 p15, EV { c with env := env1 } (("k", .int (((0 + k : Nat)) : Int)) :: ρc)
          (.BinOp (.Subscript (.Name "first" p0) (.Name "k" p1) p2) .Add (.Call (.Name "sum" p3) [.ListComp (.BinOp (.Name "x" p4) .Mod (.Constant (.int 1000000) 0 p5) p6) [⟨.Name "x" p7, .Subscript (.Name "script" p8) (.Slice (some (.Name "k" p9)) none (some (.Constant (.int 5) 0 p10)) p11) p12, [], 0⟩] scope2 p13] [] p14) p15)
          (.imm (.int (firstL.getD k 0 + ((pickL l (some (k : Int)) none (some 5)).map (·.fmod 1000000)).sum))) := by
      intro env1 k hk5 hk1 hsum scope2 hclos hnames hcell hkind hx p0 p1 p2 p3 p4 p5 p6 p7 p8 p9 p10 p11 p12 p13 p14 p15
      have e0 : (((0 + k : Nat)) : Int) = (k : Int) := by omega
      let ρ1 : Rho := ("k", .int (((0 + k : Nat)) : Int)) :: ρc
      have hf : (firstL.map IV.int)[k]? = some (IV.int (firstL.getD k 0)) := by
        have : k < firstL.length := hk5
        rw [List.getElem?_map, List.getElem?_eq_getElem this, List.getD_eq_getElem?_getD, List.getElem?_eq_getElem this]; rfl
      have sl : EV { c with env := env1 } ρ1 (.Subscript (.Name "script" p8) (.Slice (some (.Name "k" p9)) none (some (.Constant (.int 5) 0 p10)) p11) p12) (.ints (pickL l (some (k : Int)) none (some 5))) := by
        refine ev_to (ev_item (ev_var (p := .ints l) rfl hk1 rfl) (ev_slice (epart_some (ev_var (p := .int (((0 + k : Nat)) : Int)) rfl hk1 rfl)) epart_none (epart_some ev_int)) (item_list_slc (by decide) (by rw [List.length_map]; omega)) (fun _ _ _ _ => rfl)) ?_
        rw [pickL_map, e0]
      have run : ∀ C, CompRun { c with env := env1 } (compEnvC scope2 [] C env1) (actElt (.BinOp (.Name "x" p4) .Mod (.Constant (.int 1000000) 0 p5) p6) (compEnvC scope2 [] C env1)) "x" [] (((pickL l (some (k : Int)) none (some 5)).map IV.int).map PV.imm) (((pickL l (some (k : Int)) none (some 5)).map (·.fmod 1000000)).map IV.int) := by
        intro C
        rw [List.map_map, List.map_map]
        exact run_map _ fun y hy => ev_bin (ev_var (p := .int y) rfl ⟨hkind, hk1.globals, hk1.builtins⟩ rfl) ev_int (bin_mod_int (by decide))
      have lc := ev_comp (c := { c with env := env1 }) (ρ := ρ1) (scope := scope2) (pos := p13) (px := p7) [] [] rfl sl iter_list hk1 run (fun C => rule_elt) (by rw [List.length_map, List.length_map]; exact Nat.le_trans (pickL_le l k) (by omega)) hclos hnames (fun _ => rfl) hcell hkind hx rfl SubR.nil (fun _ => trivial)
      refine ev_bin (ev_item (ev_var (p := .ints firstL) rfl hk1 rfl) (ev_to (ev_var (p := .int (((0 + k : Nat)) : Int)) rfl hk1 rfl) (by rw [e0])) (item_list hf (by decide)) (fun _ _ _ _ => rfl)) (ev_call (ev_blt (u := .builtin "sum") hk1 hsum (by (repeat (first | exact List.Mem.head _ | refine List.Mem.tail _ ?_))) (by (repeat (first | exact List.Mem.head _ | refine List.Mem.tail _ ?_))) rfl) (evs_cons lc evs_nil rfl) (call_sum ?_ ?_) (.inl ⟨_, rfl⟩) rfl) bin_add_int
      · intro i hi
        obtain ⟨x, _, rfl⟩ := List.mem_map.mp hi
        rw [Int.fmod_eq_emod_of_nonneg _ (by decide)]
        omega
      · rw [List.length_map]; exact Nat.le_trans (pickL_le l k) (by omega)
    have E : ∃ p, EV c ρc (retE (nthS dCells.body 1)) p ∧ p = PV.ints (cellsOf l) := by
      refine ⟨_, ev_comp (clOf (scopeOf (retE (nthS dCells.body 1))) c.env) ρc (res := (List.range 5).map fun k => .int (firstL.getD k 0 + ((pickL l (some (k : Int)) none (some 5)).map (·.fmod 1000000)).sum)) rfl (ev_call (ev_blt (u := .type "range") hk rfl (by (repeat (first | exact List.Mem.head _ | refine List.Mem.tail _ ?_))) (by (repeat (first | exact List.Mem.head _ | refine List.Mem.tail _ ?_))) rfl) (evs_cons ev_int evs_nil rfl) call_range1 (.inr (.inl ⟨_, rfl⟩)) rfl) (range_items (a := 0) (n := 5) (by decide)) hk (fun C => ?_) (fun C => rule_elt) (by simp) rfl (by decide) (fun _ => rfl) (by decide) rfl rfl rfl (fun _ _ e => e) (fun _ => ⟨⟨rfl, rfl, rfl⟩, ⟨rfl, rfl, rfl⟩, trivial⟩), ?_⟩
      · exact run_map _ fun y hy => inner _ y (List.mem_range.mp hy) ⟨rfl, rfl, rfl⟩ rfl _ rfl (by decide) (by decide) rfl rfl _ _ _ _ _ _ _ _ _ _ _ _ _ _ _ _
      · unfold PV.ints cellsOf
        rw [List.map_map]; rfl
    obtain ⟨p, E, rfl⟩ := E
    exact ⟨_, _, exs_cons a1 (cons_ret (ex_ret E))⟩
end
end Mine
end
section
open PySem PySem.W PySem.Calls PyProof.Rows PySem.Spec
set_option maxRecDepth 100000
namespace Mine
noncomputable def listStrs : Expr → List Str
  | .List es _ => es.map strC
  | _ => []
noncomputable def listInts : Expr → List Int
  | .List es _ => es.map fun e => intC (some e)
  | _ => []
noncomputable def unitsL : List Str := listStrs (retE (nthS dTyped.body 0))
noncomputable def staysS : Str := strC (retE (nthS dTyped.body 1))
noncomputable def greatL : List Int := listInts (retE (nthS dTyped.body 2))
noncomputable def lettersS : Str := "ahkmpz"
noncomputable def cpAt (x : Str) (k : Nat) : Nat := x.cps[k]?.getD 0
noncomputable def hidAt (n : Nat) : Str := if n / 1000 % 100 % 28 = 0 then ⟨#[]⟩ else sgn (cpAt hiddenS (n / 1000 % 100 % 28 - 1))
noncomputable def unitAt (n : Nat) : Str := unitsL.getD (n / 10 % 100 % 15) ⟨#[]⟩
noncomputable def letAt (n : Nat) : Nat := cpAt lettersS (n / 10 % 100 % 6)
noncomputable def formAt (n : Nat) : Nat := n / 10 % 100 / 6 % 12
noncomputable def greatAt (n : Nat) : Nat := (greatL.getD (formAt n - 1) 0).toNat + letAt n - 97
noncomputable def signAt (n : Nat) : Str := if n % 10 < 5 then sgn (cpAt (unitAt n) 0) else if n % 10 < 8 then (if formAt n = 0 then sgn (letAt n) else sgn (greatAt n)) else sgn (cpAt staysS (n / 10 % 100 % 16))
noncomputable def meantAt (n : Nat) : Str := if n % 10 < 5 then Txt.slice (unitAt n) (some 1) none else if n % 10 < 8 then sgn (letAt n) else sgn (cpAt staysS (n / 10 % 100 % 16))
noncomputable def typedL : List Nat → Str → Str
  | [], t => t
  | n :: r, t => typedL r ((t ++ hidAt n) ++ signAt n)
noncomputable def wordL : List Nat → Str → Str
  | [], t => t
  | n :: r, t => wordL r (t ++ meantAt n)
theorem fdiv_nat (a b : Nat) : ((a : Int).fdiv (b : Int)) = ((a / b : Nat) : Int) := by
  rw [Int.fdiv_eq_ediv_of_nonneg _ (by omega)]; rfl
theorem fmod_nat (a b : Nat) : ((a : Int).fmod (b : Int)) = ((a % b : Nat) : Int) := by
  rw [Int.fmod_eq_emod_of_nonneg _ (by omega)]; rfl
theorem typed_len : ∀ (l : List Nat) (t : Str), (∀ n ∈ l, (hidAt n).length ≤ 1 ∧ (signAt n).length ≤ 1) → (typedL l t).length ≤ t.length + 2 * l.length
  | [], t, _ => by simp [typedL]
  | n :: r, t, h => by
    have h1 := h n List.mem_cons_self
    have h2 := typed_len r ((t ++ hidAt n) ++ signAt n) fun m hm => h m (List.mem_cons_of_mem _ hm)
    rw [Str.length_append, Str.length_append] at h2
    show (typedL r ((t ++ hidAt n) ++ signAt n)).length ≤ _
    simp only [List.length_cons]
    omega
theorem hidAt_len (n : Nat) : (hidAt n).length ≤ 1 := by unfold hidAt; split <;> first | exact Nat.zero_le _ | exact Nat.le_refl 1
theorem signAt_len (n : Nat) : (signAt n).length ≤ 1 := by unfold signAt; (repeat' split) <;> exact Nat.le_refl 1
theorem units_facts : ∀ k < 15, (unitsL.getD k ⟨#[]⟩).cps[0]? = some (cpAt (unitsL.getD k ⟨#[]⟩) 0) ∧ (Txt.slice (unitsL.getD k ⟨#[]⟩) (some 1) none).length ≤ 3 ∧ (unitsL.getD k ⟨#[]⟩).length ≤ 4 ∧ unitsL[k]? = some (unitsL.getD k ⟨#[]⟩) := by decide +kernel
theorem letters_facts : ∀ k < 6, lettersS.cps[k]? = some (cpAt lettersS k) ∧ 97 ≤ cpAt lettersS k ∧ cpAt lettersS k ≤ 122 := by decide +kernel
theorem stays_facts : ∀ k < 16, staysS.cps[k]? = some (cpAt staysS k) := by decide +kernel
theorem hidden_facts : ∀ k < 27, hiddenS.cps[k]? = some (cpAt hiddenS k) := by decide +kernel
theorem great_facts : ∀ k < 11, greatL[k]? = some (((greatL.getD k 0).toNat : Nat) : Int) ∧ 65 ≤ (greatL.getD k 0).toNat ∧ (greatL.getD k 0).toNat ≤ 120432 := by decide +kernel
theorem letgo_str {b : Expr} {x : Str} : ∀ (F : PM) (va r : Value), RV F va (.str x) → letTemporaryGo b va r = pure () := fun F va r h => by
  obtain ⟨t, rfl⟩ := rv_str h
  cases b <;> rfl
section
variable {c : Cx} {ρ : Rho}
theorem ev_fdiv {l : Expr} {p p' : Pos} {a b : Nat} {k : Nat} (h : EV c ρ l (.int (a : Int))) (hb : b ≠ 0) (hp : ∀ x, Builtin.divisionGoesByPylong x (b : Int) = false) : EV c ρ (.BinOp l .FloorDiv (.Constant (.int (b : Int)) k p) p') (.int ((a / b : Nat) : Int)) :=
  ev_to (ev_bin h ev_int (bin_fdiv_int (by omega) (hp _))) (by rw [fdiv_nat])
theorem ev_mod {l : Expr} {p p' : Pos} {a b : Nat} {k : Nat} (h : EV c ρ l (.int (a : Int))) (hb : b ≠ 0) : EV c ρ (.BinOp l .Mod (.Constant (.int (b : Int)) k p) p') (.int ((a % b : Nat) : Int)) :=
  ev_to (ev_bin h ev_int (bin_mod_int (by omega))) (by rw [fmod_nat])
theorem eb_gt0 {l : Expr} {p p' : Pos} {a : Nat} {k : Nat} (h : EV c ρ l (.int (a : Int))) : EB c ρ (.Compare l [.Gt] [.Constant (.int 0) k p] p') (decide (0 < a)) := by
  have := eb_cmp (pos := p') h (ev_int (i := 0) (k := k) (pos := p)) cmp_gt_int rfl
  have e : decide ((a : Int) > 0) = decide (0 < a) := by
    by_cases h : 0 < a
    · rw [decide_eq_true h, decide_eq_true (by omega)]
    · rw [decide_eq_false h, decide_eq_false (by omega)]
  rw [e] at this; exact this
theorem eb_ltN {l : Expr} {p p' : Pos} {a b : Nat} {k : Nat} (h : EV c ρ l (.int (a : Int))) : EB c ρ (.Compare l [.Lt] [.Constant (.int (b : Int)) k p] p') (decide (a < b)) := by
  have := eb_cmp (pos := p') h (ev_int (i := (b : Int)) (k := k) (pos := p)) cmp_lt_int rfl
  have e : decide ((a : Int) < (b : Int)) = decide (a < b) := by
    by_cases h : a < b
    · rw [decide_eq_true h, decide_eq_true (by omega)]
    · rw [decide_eq_false h, decide_eq_false (by omega)]
  rw [e] at this; exact this
end
section
variable {prog : Program} {w : World}
theorem pylong {b : Int} (h : b = 10 ∨ b = 1000 ∨ b = 6 ∨ b = 100 ∨ b = 10000) (x : Int) : Builtin.divisionGoesByPylong x b = false := by
  rcases h with rfl | rfl | rfl | rfl | rfl <;> rfl
set_option maxHeartbeats 2000000 in
theorem fn_typed {l : List Nat} (hl : l.length ≤ 4) : FN prog w topI dTyped 1 [.ints (l.map Int.ofNat), .str hiddenS] (.tup [.str (typedL l ⟨#[]⟩), .str (wordL l ⟨#[]⟩)]) :=
  fn_intro (by simp [topI]) okTyped rfl fun A L cdv lo hk => by
    let c : Cx := ⟨prog, w, A, envC dTyped L cdv, 0, topI, lo⟩
    let ρb : Rho := [("great", .ints greatL), ("stays", .str staysS), ("units", .strs unitsL), ("hidden", .str hiddenS), ("cells", .ints (l.map Int.ofNat))]
    let ρ0 : Str → Str → Rho := fun t u => ("word", .str u) :: ("typed", .str t) :: ρb
    have loop : ∀ (l : List Nat) (t u : Str), t.length + 2 * l.length ≤ 1000 → u.length + 4 * l.length ≤ 1000 → ForRun c "n" (forBody (nthS dTyped.body 5)) (l.map fun n : Nat => PV.int (n : Int)) (ρ0 t u) .none .next (ρ0 (typedL l t) (wordL l u)) .none := by
      intro l
      induction l with
      | nil => intro t u _ _; exact .nil
      | cons n l ih =>
        intro t u ht hu
        have hkw : n / 10 % 100 % 15 < 15 := Nat.mod_lt _ (by decide)
        have uf := units_facts _ hkw
        have hh := hidAt_len n
        have hs := signAt_len n
        have hm : (meantAt n).length ≤ 4 := by
          unfold meantAt
          split
          · exact Nat.le_trans uf.2.1 (by decide)
          · split <;> exact (by decide : 1 ≤ 4)
        simp only [List.length_cons] at ht hu
        let ρ1 : Rho := ("n", .int (n : Int)) :: ρ0 t u
        let ρ2 : Rho := ("which", .int ((n / 10 % 100 : Nat) : Int)) :: ρ1
        let ρ3 : Rho := ("ahead", .int ((n / 1000 % 100 % 28 : Nat) : Int)) :: ρ2
        let ρ4 : Rho := ("which", .int ((n / 10 % 100 : Nat) : Int)) :: ("n", .int (n : Int)) :: ("word", .str u) :: ("typed", .str (t ++ hidAt n)) :: ρb
        have s1 : EX c (nthS (forBody (nthS dTyped.body 5)) 0) ρ1 .none .next ρ2 .none := ex_assign (ev_mod (b := 100) (ev_fdiv (b := 10) (ev_var (p := .int (n : Int)) rfl hk rfl) (by decide) (pylong (by simp))) (by decide)) hk (.inl rfl) (by simp [Own.name]) rfl
        have s2 : EX c (nthS (forBody (nthS dTyped.body 5)) 1) ρ2 .none .next ρ3 .none := ex_assign (ev_mod (b := 28) (ev_mod (b := 100) (ev_fdiv (b := 1000) (ev_var (p := .int (n : Int)) rfl hk rfl) (by decide) (pylong (by simp))) (by decide)) (by decide)) hk (.inl rfl) (by simp [Own.name]) rfl
        have s3 : EX c (nthS (forBody (nthS dTyped.body 5)) 2) ρ3 .none .next ρ4 .none := by
          refine ex_if (eb_gt0 (ev_var (p := .int ((n / 1000 % 100 % 28 : Nat) : Int)) rfl hk rfl)) (fun h => ?_) (fun h => ?_)
          · have h := of_decide_eq_true h
            have hlt : n / 1000 % 100 % 28 - 1 < 27 := by have : n / 1000 % 100 % 28 < 28 := Nat.mod_lt _ (by decide); omega
            have e : t ++ hidAt n = t ++ sgn (cpAt hiddenS (n / 1000 % 100 % 28 - 1)) := by unfold hidAt; rw [if_neg (by omega)]
            have idx : ∀ {p1 p2 p3 : Pos}, EV c ρ3 (.BinOp (.Name "ahead" p1) .Sub (.Constant (.int 1) 0 p2) p3) (.int ((n / 1000 % 100 % 28 - 1 : Nat) : Int)) := fun {_ _ _} =>
              ev_to (ev_bin (ev_var (p := .int ((n / 1000 % 100 % 28 : Nat) : Int)) rfl hk rfl) ev_int bin_sub_int) (by congr 2; omega)
            have it : ∀ {p0 p1 p2 p3 p4 : Pos}, EV c ρ3 (.Subscript (.Name "hidden" p0) (.BinOp (.Name "ahead" p1) .Sub (.Constant (.int 1) 0 p2) p3) p4) (.str (sgn (cpAt hiddenS (n / 1000 % 100 % 28 - 1)))) := fun {_ _ _ _ _} => ev_plain (ev_item (ev_var (p := .str hiddenS) rfl hk rfl) idx (item_str (hidden_facts _ hlt) (by decide +kernel)) (by first | exact (fun _ _ _ _ => rfl) | exact letgo_str))
            refine exs_cons (ex_weakR (ρ'' := ρ4) ?_ (ex_aug (p := .str t) rfl it (inp_add_str ?_) hk (.inl rfl) (by simp [Own.name]))) exs_nil
            · show SubR _ (("typed", .str (t ++ sgn (cpAt hiddenS (n / 1000 % 100 % 28 - 1)))) :: ρ3)
              rw [← e]
              exact (by repeat' (first | exact SubR.nil | refine SubR.cons rfl ?_))
            · exact Nat.le_trans (show t.length + 1 ≤ 1000 by omega) (by decide)
          · have h := of_decide_eq_false h
            have e : t ++ hidAt n = t := by unfold hidAt; rw [if_pos (by omega)]; apply Str.ext'; simp [Str.cps_append]
            show EXs c [] ρ3 .none .next (("which", .int ((n / 10 % 100 : Nat) : Int)) :: ("n", .int (n : Int)) :: ("word", .str u) :: ("typed", .str (t ++ hidAt n)) :: ρb) .none
            rw [e]
            exact exs_weakR (by repeat' (first | exact SubR.nil | refine SubR.cons rfl ?_)) exs_nil
        have wE : ∀ {p : Pos}, EV c ρ4 (.Name "which" p) (.int ((n / 10 % 100 : Nat) : Int)) := ev_var rfl hk rfl
        have nE : ∀ {p : Pos}, EV c ρ4 (.Name "n" p) (.int (n : Int)) := ev_var rfl hk rfl
        have s4 : EX c (nthS (forBody (nthS dTyped.body 5)) 3) ρ4 .none .next (ρ0 ((t ++ hidAt n) ++ signAt n) (u ++ meantAt n)) .none := by
          have htl : (t ++ hidAt n).length ≤ 1000 := by rw [Str.length_append]; omega
          refine ex_if (eb_ltN (b := 5) (ev_mod (b := 10) nE (by decide))) (fun h => ?_) (fun h => ?_)
          · have h := of_decide_eq_true h
            have e1 : signAt n = sgn (cpAt (unitAt n) 0) := by unfold signAt; rw [if_pos h]
            have e2 : meantAt n = Txt.slice (unitAt n) (some 1) none := by unfold meantAt; rw [if_pos h]
            rw [e1, e2]
            have un : ∀ {ρ : Rho} {p1 p2 p3 p4 p5 : Pos}, ρ.lookup (Str.ofString "units") = some (PV.strs unitsL) → ρ.lookup (Str.ofString "which") = some (PV.int ((n / 10 % 100 : Nat) : Int)) → EV c ρ (.Subscript (.Name "units" p1) (.BinOp (.Name "which" p2) .Mod (.Constant (.int 15) 0 p3) p4) p5) (.str (unitAt n)) := fun {ρ p1 p2 p3 p4 p5} h1 h2 =>
              ev_item (ev_var h1 hk rfl) (ev_mod (b := 15) (ev_var h2 hk rfl) (by decide)) (item_list (by rw [List.getElem?_map, uf.2.2.2]; rfl) (by decide +kernel)) (by first | exact (fun _ _ _ _ => rfl) | exact letgo_str)
            have t1 : ∀ {p1 p2 p3 p4 p5 p6 p7 : Pos}, EV c ρ4 (.Subscript (.Subscript (.Name "units" p1) (.BinOp (.Name "which" p2) .Mod (.Constant (.int 15) 0 p3) p4) p5) (.Constant (.int 0) 0 p6) p7) (.str (sgn (cpAt (unitAt n) 0))) := fun {_ _ _ _ _ _ _} =>
              ev_plain (ev_item (un rfl rfl) (ev_int (i := 0)) (item_str (k := 0) uf.1 (Nat.lt_of_le_of_lt uf.2.2.1 (by decide))) (by first | exact (fun _ _ _ _ => rfl) | exact letgo_str))
            have t2 : ∀ {p1 p2 p3 p4 p5 p6 p7 p8 : Pos}, EV c (("typed", .str ((t ++ hidAt n) ++ sgn (cpAt (unitAt n) 0))) :: ρ4) (.Subscript (.Subscript (.Name "units" p1) (.BinOp (.Name "which" p2) .Mod (.Constant (.int 15) 0 p3) p4) p5) (.Slice (some (.Constant (.int 1) 0 p6)) none none p7) p8) (.str (Txt.slice (unitAt n) (some 1) none)) := fun {_ _ _ _ _ _ _ _} =>
              ev_item (un rfl rfl) (ev_slice (epart_some ev_int) epart_none epart_none) (item_str_slc (Nat.le_trans uf.2.2.1 (by decide))) (by first | exact (fun _ _ _ _ => rfl) | exact letgo_str)
            refine exs_cons (ex_aug (p := .str (t ++ hidAt n)) rfl t1 (inp_add_str (Nat.le_trans (show (t ++ hidAt n).length + 1 ≤ 1001 by omega) (by decide))) hk (.inl rfl) (by simp [Own.name])) (exs_cons (ex_weakR (by repeat' (first | exact SubR.nil | refine SubR.cons rfl ?_)) (ex_aug (p := .str u) rfl t2 (inp_add_str (Nat.le_trans (show u.length + (Txt.slice (unitAt n) (some 1) none).length ≤ 1003 from Nat.add_le_add (show u.length ≤ 1000 by omega) uf.2.1) (by decide))) hk (.inl rfl) (by simp [Own.name]))) exs_nil)
          · have h := of_decide_eq_false h
            refine exs_cons (ex_if (eb_ltN (b := 8) (ev_mod (b := 10) nE (by decide))) (fun h8 => ?_) (fun h8 => ?_)) exs_nil
            · have h8 := of_decide_eq_true h8
              have lf := letters_facts (n / 10 % 100 % 6) (Nat.mod_lt _ (by decide))
              have e2 : meantAt n = sgn (letAt n) := by unfold meantAt; rw [if_neg h, if_pos h8]
              have e1 : signAt n = (if formAt n = 0 then sgn (letAt n) else sgn (greatAt n)) := by unfold signAt; rw [if_neg h, if_pos h8]
              rw [e2]
              let ρ5 : Rho := ("small", .str (sgn (letAt n))) :: ρ4
              let ρ6 : Rho := ("form", .int (formAt n : Int)) :: ρ5
              have a1 : EX c (nthS (forBody (nthS (elseBody (nthS (forBody (nthS dTyped.body 5)) 3)) 0)) 0) ρ4 .none .next ρ5 .none :=
                ex_assign (ev_plain (ev_item ev_str (ev_mod (b := 6) wE (by decide)) (item_str lf.1 (by decide)) (by first | exact (fun _ _ _ _ => rfl) | exact letgo_str))) hk (.inl rfl) (by simp [Own.name]) rfl
              have a2 : EX c (nthS (forBody (nthS (elseBody (nthS (forBody (nthS dTyped.body 5)) 3)) 0)) 1) ρ5 .none .next ρ6 .none :=
                ex_assign (ev_mod (b := 12) (ev_fdiv (b := 6) (ev_var (p := .int ((n / 10 % 100 : Nat) : Int)) rfl hk rfl) (by decide) (pylong (by simp))) (by decide)) hk (.inl rfl) (by simp [Own.name]) rfl
              have fE : ∀ {p : Pos}, EV c ρ6 (.Name "form" p) (.int (formAt n : Int)) := ev_var rfl hk rfl
              have val : EV c ρ6 (match nthS (forBody (nthS (elseBody (nthS (forBody (nthS dTyped.body 5)) 3)) 0)) 2 with | .AugAssign _ _ e _ => e | _ => .Constant .none 0 ⟨0, 0, 0, 0⟩) (.str (signAt n)) := by
                rw [e1]
                refine ev_ifexp (eb_gt0 fE) (fun h0 => ?_) (fun h0 => ?_)
                · have h0 := of_decide_eq_true h0
                  rw [if_neg (by omega)]
                  have hf12 : formAt n - 1 < 11 := by have : formAt n < 12 := Nat.mod_lt _ (by decide); omega
                  have gf := great_facts _ hf12
                  have idx : ∀ {p1 p2 p3 : Pos}, EV c ρ6 (.BinOp (.Name "form" p1) .Sub (.Constant (.int 1) 0 p2) p3) (.int ((formAt n - 1 : Nat) : Int)) := fun {_ _ _} => ev_to (ev_bin fE ev_int bin_sub_int) (by show PV.int _ = PV.int _; congr 1; omega)
                  have ar' : ∀ {p1 p2 p3 p4 p5 p6 p7 p8 p9 p10 p11 : Pos}, EV c ρ6 (.BinOp (.BinOp (.Subscript (.Name "great" p1) (.BinOp (.Name "form" p2) .Sub (.Constant (.int 1) 0 p3) p4) p5) .Add (.Call (.Name "ord" p6) [.Name "small" p7] [] p8) p9) .Sub (.Constant (.int 97) 0 p10) p11) (.int (greatAt n : Int)) := fun {_ _ _ _ _ _ _ _ _ _ _} =>
                    ev_to (ev_bin (ev_bin (ev_item (ev_var (p := .ints greatL) rfl hk rfl) idx (item_list (i := .int (((greatL.getD (formAt n - 1) 0).toNat : Nat) : Int)) (by rw [List.getElem?_map, gf.1]; rfl) (by decide +kernel)) (by first | exact (fun _ _ _ _ => rfl) | exact letgo_str)) (ev_call (ev_blt (u := .builtin "ord") hk rfl (by (repeat (first | exact List.Mem.head _ | refine List.Mem.tail _ ?_))) (by (repeat (first | exact List.Mem.head _ | refine List.Mem.tail _ ?_))) rfl) (evs_cons (ev_var (p := .str (sgn (letAt n))) rfl hk rfl) evs_nil rfl) call_ord (.inl ⟨_, rfl⟩) rfl) bin_add_int) ev_int bin_sub_int) (by
                      have h97 : 97 ≤ letAt n := lf.2.1
                      show PV.int _ = PV.int _
                      congr 1
                      unfold greatAt; omega)
                  have hb : greatAt n ≤ 1114111 := by
                    have h1 : letAt n ≤ 122 := lf.2.2
                    have h2 := gf.2.2
                    unfold greatAt; omega
                  exact ev_call (ev_blt (u := .builtin "chr") hk rfl (by (repeat (first | exact List.Mem.head _ | refine List.Mem.tail _ ?_))) (by (repeat (first | exact List.Mem.head _ | refine List.Mem.tail _ ?_))) rfl) (evs_cons ar' evs_nil rfl) (call_chr hb) (.inl ⟨_, rfl⟩) rfl
                · have h0 := of_decide_eq_false h0
                  rw [if_pos (by omega)]
                  exact ev_var rfl hk rfl
              refine exs_cons a1 (exs_cons a2 (exs_cons (ex_aug (p := .str (t ++ hidAt n)) rfl val (inp_add_str (Nat.le_trans (Nat.add_le_add htl hs) (by decide))) hk (.inl rfl) (by simp [Own.name])) (exs_cons (ex_weakR (by repeat' (first | exact SubR.nil | refine SubR.cons rfl ?_)) (ex_aug (p := .str u) (q := .str (sgn (letAt n))) rfl (ev_var rfl hk rfl) (inp_add_str (Nat.le_trans (show u.length + 1 ≤ 1001 by omega) (by decide))) hk (.inl rfl) (by simp [Own.name]))) exs_nil)))
            · have h8 := of_decide_eq_false h8
              have sf := stays_facts (n / 10 % 100 % 16) (Nat.mod_lt _ (by decide))
              have e1 : signAt n = sgn (cpAt staysS (n / 10 % 100 % 16)) := by unfold signAt; rw [if_neg h, if_neg h8]
              have e2 : meantAt n = sgn (cpAt staysS (n / 10 % 100 % 16)) := by unfold meantAt; rw [if_neg h, if_neg h8]
              rw [e1, e2]
              have st : ∀ {ρ : Rho} {p1 p2 p3 p4 p5 : Pos}, ρ.lookup (Str.ofString "stays") = some (PV.str staysS) → ρ.lookup (Str.ofString "which") = some (PV.int ((n / 10 % 100 : Nat) : Int)) → EV c ρ (.Subscript (.Name "stays" p1) (.BinOp (.Name "which" p2) .Mod (.Constant (.int 16) 0 p3) p4) p5) (.str (sgn (cpAt staysS (n / 10 % 100 % 16)))) := fun {ρ p1 p2 p3 p4 p5} h1 h2 =>
                ev_plain (ev_item (ev_var h1 hk rfl) (ev_mod (b := 16) (ev_var h2 hk rfl) (by decide)) (item_str sf (by decide +kernel)) (by first | exact (fun _ _ _ _ => rfl) | exact letgo_str))
              exact exs_cons (ex_aug (p := .str (t ++ hidAt n)) rfl (st rfl rfl) (inp_add_str (Nat.le_trans (show (t ++ hidAt n).length + 1 ≤ 1001 by omega) (by decide))) hk (.inl rfl) (by simp [Own.name])) (exs_cons (ex_weakR (by repeat' (first | exact SubR.nil | refine SubR.cons rfl ?_)) (ex_aug (p := .str u) rfl (st rfl rfl) (inp_add_str (Nat.le_trans (show u.length + 1 ≤ 1001 by omega) (by decide))) hk (.inl rfl) (by simp [Own.name]))) exs_nil)
        have step : EXs c (forBody (nthS dTyped.body 5)) (("n", .int (n : Int)) :: ρ0 t u) .none .next (ρ0 ((t ++ hidAt n) ++ signAt n) (u ++ meantAt n)) .none :=
          exs_cons s1 (exs_cons s2 (exs_cons s3 (exs_cons s4 exs_nil)))
        refine .next (by simp [Own.name]) step (ih _ _ ?_ ?_)
        · rw [Str.length_append, Str.length_append]; omega
        · rw [Str.length_append]; omega
    have s0 : ∀ {rest : List Stmt} {p : PV} {ρ' : Rho}, EXs c rest (ρ0 ⟨#[]⟩ ⟨#[]⟩) .none (.ret p) ρ' .none → EXs c (nthS dTyped.body 0 :: nthS dTyped.body 1 :: nthS dTyped.body 2 :: nthS dTyped.body 3 :: nthS dTyped.body 4 :: rest) [("hidden", .str hiddenS), ("cells", .ints (l.map Int.ofNat))] .none (.ret p) ρ' .none := by
      intro rest p ρ' h
      refine exs_cons (ex_assign (ev_list (l := unitsL.map IV.str) ?_ (by decide +kernel)) hk (.inl rfl) (by simp [Own.name]) rfl) (exs_cons (ex_assign ev_str hk (.inl rfl) (by simp [Own.name]) rfl) (exs_cons (ex_assign (ev_list (l := greatL.map IV.int) ?_ (by decide +kernel)) hk (.inl rfl) (by simp [Own.name]) rfl) (exs_cons (ex_assign ev_str hk (.inl rfl) (by simp [Own.name]) rfl) (exs_cons (ex_assign ev_str hk (.inl rfl) (by simp [Own.name]) rfl) h))))
      · show EVs c _ _ [.str _, .str _, .str _, .str _, .str _, .str _, .str _, .str _, .str _, .str _, .str _, .str _, .str _, .str _, .str _]
        repeat (first | exact evs_nil | refine evs_cons ev_str ?_ rfl)
      · show EVs c _ _ [.int _, .int _, .int _, .int _, .int _, .int _, .int _, .int _, .int _, .int _, .int _]
        repeat (first | exact evs_nil | refine evs_cons ev_int ?_ rfl)
    have items : IterOK c (.ints (l.map Int.ofNat)) (l.map fun n : Nat => PV.int (n : Int)) := by
      have e : (((l.map Int.ofNat).map IV.int).map PV.imm) = l.map fun n : Nat => PV.int (n : Int) := by rw [List.map_map, List.map_map]; rfl
      rw [← e]; exact iter_list
    have l0 := loop l ⟨#[]⟩ ⟨#[]⟩ (by show 0 + _ ≤ _; omega) (by show 0 + _ ≤ _; omega)
    refine ⟨_, _, s0 (exs_cons (ex_for (ev_var (p := .ints (l.map Int.ofNat)) rfl hk rfl) items l0 hk (.inl rfl) (.inl ⟨rfl, exs_nil⟩) fun _ => rfl) (cons_ret (ex_ret (ev_tup (l := [.str _, .str _]) (evs_cons (ev_var rfl hk rfl) (evs_cons (ev_var rfl hk rfl) evs_nil rfl) rfl) (Nat.le_of_ble_eq_true rfl)))))⟩
end
end Mine
end
section
open PySem PySem.W PySem.Calls PyProof.Rows PySem.Spec
set_option maxRecDepth 100000
namespace Mine
theorem range_pick {α : Type} (l : List α) : ∀ (n s : Nat), ((List.range n).map fun (k : Nat) => ((s : Int) + 1 * (k : Int)).toNat).filterMap (l[·]?) = (l.drop s).take n := by
  intro n
  induction n with
  | zero => intro s; rfl
  | succ n ih =>
    intro s
    rw [List.range_succ_eq_map, List.map_cons, List.map_map, List.filterMap_cons]
    have e : ((fun (k : Nat) => ((s : Int) + 1 * (k : Int)).toNat) ∘ Nat.succ) = fun (k : Nat) => (((s + 1 : Nat) : Int) + 1 * (k : Int)).toNat := by
      funext k; simp only [Function.comp]; congr 1; push_cast; omega
    rw [e, ih (s + 1)]
    have e0 : ((s : Int) + 1 * ((0 : Nat) : Int)).toNat = s := by omega
    rw [e0]
    cases h : l[s]? with
    | none =>
      have hs : l.length ≤ s := List.getElem?_eq_none_iff.mp h
      rw [List.drop_eq_nil_of_le hs, List.drop_eq_nil_of_le (by omega)]; simp
    | some a =>
      have hs : s < l.length := by
        rcases Nat.lt_or_ge s l.length with h' | h'
        · exact h'
        · rw [List.getElem?_eq_none h'] at h; cases h
      rw [List.drop_eq_getElem_cons hs, List.take_succ_cons]
      rw [List.getElem?_eq_getElem hs] at h
      cases h; rfl
theorem pick_le {α : Type} (l : List α) (s e : Nat) (he : e ≤ l.length) : (sliceRange (s : Int) (e : Int) 1).filterMap (l[·]?) = (l.drop s).take (e - s) := by
  unfold sliceRange
  rw [if_pos (by decide)]
  dsimp only
  have : (if (s : Int) < (e : Int) then ((e : Int) - s + 1 - 1) / 1 else 0).toNat = e - s := by
    split <;> simp <;> omega
  rw [this]
  exact range_pick l (e - s) s
theorem pick_from {α : Type} (l : List α) (s : Nat) : pickL l (some (s : Int)) none none = l.drop s := by
  unfold pickL sliceBounds
  simp only [Option.getD_none, show (1 : Int) > 0 by decide, if_true]
  rw [if_neg (by omega)]
  have e : max 0 (min (s : Int) (l.length : Int)) = ((min s l.length : Nat) : Int) := by omega
  rw [e, pick_le l _ _ (Nat.le_refl _)]
  rcases Nat.lt_or_ge s l.length with h | h
  · rw [Nat.min_eq_left (Nat.le_of_lt h), List.take_of_length_le (by rw [List.length_drop]; omega)]
  · rw [Nat.min_eq_right h, List.drop_eq_nil_of_le h, List.drop_eq_nil_of_le (Nat.le_refl _)]; simp
theorem pick_to {α : Type} (l : List α) (s : Nat) : pickL l none (some (s : Int)) none = l.take s := by
  unfold pickL sliceBounds
  simp only [Option.getD_none, show (1 : Int) > 0 by decide, if_true]
  rw [if_neg (by omega)]
  have e : max 0 (min (s : Int) (l.length : Int)) = ((min s l.length : Nat) : Int) := by omega
  rw [e]
  have := pick_le l 0 (min s l.length) (Nat.min_le_right _ _)
  rw [show ((0 : Nat) : Int) = 0 from rfl] at this
  rw [this, List.drop_zero, Nat.sub_zero]
  rcases Nat.lt_or_ge s l.length with h | h
  · rw [Nat.min_eq_left (Nat.le_of_lt h)]
  · rw [Nat.min_eq_right h, List.take_of_length_le (Nat.le_refl _), List.take_of_length_le h]
theorem pick_last {α : Type} (l : List α) (a : α) : pickL (l ++ [a]) (some (-1)) none none = [a] := by
  have : pickL (l ++ [a]) (some (-1)) none none = pickL (l ++ [a]) (some (l.length : Int)) none none := by
    unfold pickL sliceBounds
    simp only [Option.getD_none, show (1 : Int) > 0 by decide, if_true, show (-1 : Int) < 0 by decide, List.length_append, List.length_singleton]
    rw [if_neg (by omega)]
    have e1 : (-1 : Int) + ((l.length + 1 : Nat) : Int) = (l.length : Int) := by omega
    rw [e1]
  rw [this, pick_from, List.drop_left]
theorem pick_init {α : Type} (l : List α) (a : α) : pickL (l ++ [a]) none (some (-1)) none = l := by
  have : pickL (l ++ [a]) none (some (-1)) none = pickL (l ++ [a]) none (some (l.length : Int)) none := by
    unfold pickL sliceBounds
    simp only [Option.getD_none, show (1 : Int) > 0 by decide, if_true, show (-1 : Int) < 0 by decide, List.length_append, List.length_singleton]
    rw [if_neg (by omega)]
    have e1 : (-1 : Int) + ((l.length + 1 : Nat) : Int) = (l.length : Int) := by omega
    rw [e1]
  rw [this, pick_to, List.take_left]
section
variable {c : Cx} {ρ : Rho}
theorem un_neg {x : Int} : UnOK c .USub (.int x) (.int (-x)) := by
  unfold UnOK
  intro F s va P r Q E hQ
  obtain ⟨t, rfl⟩ := rv_int r
  exact PySem.P.neg_int (hQ.tick P 1 (.imm (.int _ _)))
theorem un_not {b : Bool} : UnOK c .Not (.bool b) (.bool (!b)) := by
  unfold UnOK
  intro F s va P r Q E hQ
  obtain rfl := rv_bool r
  unfold unaryOp
  refine wpAny_holding ?_
  show wpAny _ _ (do return .bool (!(← truthy (.bool b)))) Q E s
  exact wpAny_bind (wpAny_truthy_bool (wpAny_pure (hQ.same P (.imm (.bool _)))))
theorem ev_neg1 {p p' : Pos} {k : Nat} : EV c ρ (.UnaryOp .USub (.Constant (.int 1) k p) p') (.int (-1)) := ev_un ev_int un_neg
end
section
variable {prog : Program} {w : World}
theorem ev_fn {A : Around} {env : Env} {k k' lo : Nat} {ρ : Rho} {d : FnRec} {name : Str} {es : List Expr} {ps : List PV} {p : PV} {p1 p2 : Pos} (h : FN prog w topI d k ps p) (hkk : k ≤ k') (hk : EnvOK env) (hkind : env.kindOf name = some .globalImplicit) (hg : (name, some (Value.ref d.addr)) ∈ topI.glob) (hd : d ∈ topI.fns) (hdb : (name == ("__debug__" : Str)) = false)
    (he : EVs ⟨prog, w, A, env, k', topI, lo⟩ ρ es ps) (hp : (starEach es env).all (fun x => !x.1) = true) (hs : eval (.Call (.Name name p1) es [] p2) env = (do callWith p2 (← eval (.Name name p1) env) [] (backTo p2 (starEach es env)) [])) :
    EV ⟨prog, w, A, env, k', topI, lo⟩ ρ (.Call (.Name name p1) es [] p2) p :=
  ev_call (ev_glob (u := .ref d.addr) hk hkind hg hdb) he (h.call hkk) (.inr (.inr ⟨d, hd, rfl⟩)) hp hs
noncomputable def rotL (l : List Nat) : List Nat := match l.getLast? with
  | some a => a :: l.dropLast
  | none => []
noncomputable def movIn (big : Bool) (sign : Nat) : List Nat → List Nat → List Nat → List Nat
  | [], _, laid => laid
  | a :: r, held, laid => if (decide (a ≤ sign) == big) = true then movIn big sign r [] (laid ++ rotL (held ++ [a])) else movIn big sign r (held ++ [a]) laid
noncomputable def movStep (row : List Nat) (sign : Nat) : List Nat := movIn (decide (row.getLastD 0 ≤ sign)) sign row [] [] ++ [sign]
noncomputable def moved : List Nat → List Nat → List Nat
  | [], row => row
  | s :: w, row => moved w (movStep row s)
theorem rotL_snoc (l : List Nat) (a : Nat) : rotL (l ++ [a]) = a :: l := by
  unfold rotL; rw [List.getLast?_concat, List.dropLast_concat]
theorem movIn_len (big : Bool) (sign : Nat) : ∀ (r held laid : List Nat), (movIn big sign r held laid).length ≤ laid.length + held.length + r.length
  | [], held, laid => by simp [movIn]
  | a :: r, held, laid => by
    unfold movIn
    split
    · have := movIn_len big sign r [] (laid ++ rotL (held ++ [a]))
      rw [rotL_snoc] at this ⊢
      simp only [List.length_append, List.length_cons, List.length_nil] at this ⊢
      omega
    · have := movIn_len big sign r (held ++ [a]) laid
      simp only [List.length_append, List.length_cons, List.length_nil] at this ⊢
      omega
theorem ltS_sgn (a b : Nat) : ltS (sgn a) (sgn b) = decide (a < b) := by
  show decide ([a] < [b]) = decide (a < b)
  by_cases h : a < b
  · rw [decide_eq_true h]; exact decide_eq_true (List.Lex.rel h)
  · rw [decide_eq_false h]
    refine decide_eq_false fun h' => h ?_
    cases h' with
    | rel h => exact h
    | cons h => cases h
theorem strs_sgn (l : List Nat) : (l.map sgn).map IV.str = l.map fun a => IV.str (sgn a) := by rw [List.map_map]; rfl
set_option maxHeartbeats 2000000 in
theorem fn_moved {l : List Nat} (hl : l.length ≤ 100) : FN prog w topI dMoved 2 [.str ⟨l.toArray⟩] (.strs ((moved l []).map sgn)) :=
  fn_intro (by simp [topI]) okMoved rfl fun A L cdv lo hk => by
    let c : Cx := ⟨prog, w, A, envC dMoved L cdv, 1, topI, lo⟩
    let ρb : Rho := [("word", .str ⟨l.toArray⟩)]
    let S : List Nat → PV := fun l => .strs (l.map sgn)
    have cc : ∀ {ρ : Rho} {a b : List Nat} {e1 e2 : Expr} {p1 p2 : Pos}, a.length + b.length ≤ 1000 → EV c ρ e1 (S a) → EV c ρ e2 (S b) → (starEach [e1, e2] c.env).all (fun x => !x.1) = true → starEach [e1, e2] c.env = (false, eval e1 c.env) :: starEach [e2] c.env → starEach [e2] c.env = (false, eval e2 c.env) :: starEach [] c.env →
        EV c ρ (.Call (.Name "concat" p1) [e1, e2] [] p2) (S (a ++ b)) := fun {ρ a b e1 e2 p1 p2} h h1 h2 hp hs1 hs2 => by
      refine ev_to (ev_fn (d := dConcat) (fn_concat_list (l := (a.map sgn).map IV.str) (m := (b.map sgn).map IV.str) (by simp only [List.length_map]; omega)) (Nat.le_refl 1) hk rfl (by (repeat (first | exact List.Mem.head _ | refine List.Mem.tail _ ?_))) (by simp [topI]) rfl (evs_cons h1 (evs_cons h2 evs_nil hs2) hs1) hp rfl) ?_
      show PV.list _ = PV.list _
      rw [List.map_append, List.map_append]
    have inner : ∀ (sign : Nat) (row : List Nat) (r held laid : List Nat), row ≠ [] → row.length ≤ 400 → laid.length + held.length + r.length ≤ 400 → ∃ held', ForRun c "letter" (forBody (nthS (forBody (nthS dMoved.body 1)) 2)) (r.map fun a => .str (sgn a)) (("laid", S laid) :: ("held", S held) :: ("sign", .str (sgn sign)) :: ("row", S row) :: ρb) .none .next
        (("laid", S (movIn (decide (row.getLastD 0 ≤ sign)) sign r held laid)) :: ("held", S held') :: ("sign", .str (sgn sign)) :: ("row", S row) :: ρb) .none := by
      intro sign row r
      induction r with
      | nil => intro held laid _ _ _; exact ⟨held, .nil⟩
      | cons a r ih =>
        intro held laid hrow hrl hlen
        simp only [List.length_cons] at hlen
        let ρ0 : Rho := ("letter", .str (sgn a)) :: ("laid", S laid) :: ("held", S held) :: ("sign", .str (sgn sign)) :: ("row", S row) :: ρb
        let ρ1 : Rho := ("held", S (held ++ [a])) :: ρ0
        have s1 : EX c (nthS (forBody (nthS (forBody (nthS dMoved.body 1)) 2)) 0) ρ0 .none .next ρ1 .none :=
          ex_assign (cc (b := [a]) (by simp; omega) (ev_var (p := S held) rfl hk rfl) (ev_list (l := [.str (sgn a)]) (evs_cons (ev_var rfl hk rfl) evs_nil rfl) (Nat.le_of_ble_eq_true rfl)) rfl rfl rfl) hk (.inl rfl) (by simp [Own.name]) rfl
        have lastR : ((row.map sgn).map IV.str).getLast? = some (IV.str (sgn (row.getLastD 0))) := by
          rw [List.getLast?_map, List.getLast?_map, List.getLast?_eq_some_getLast hrow]
          cases row with
          | nil => exact absurd rfl hrow
          | cons x xs => rfl
        have eL : EV c ρ1 (.Name "letter" ⟨100, 21, 100, 27⟩) (.str (sgn a)) := ev_var rfl hk rfl
        have test : EB c ρ1 (match nthS (forBody (nthS (forBody (nthS dMoved.body 1)) 2)) 1 with | .If t _ _ _ => t | _ => .Constant .none 0 ⟨0, 0, 0, 0⟩) (decide (a ≤ sign) == decide (row.getLastD 0 ≤ sign)) := by
          have le1 : ∀ {p1 p2 p3 p4 : Pos}, EV c ρ1 (.Call (.Name "le" p1) [.Name "letter" p2, .Name "sign" p3] [] p4) (.bool (decide (a ≤ sign))) := fun {_ _ _ _} => by
            refine ev_to (ev_fn (d := dLe) (fn_le_str (x := sgn a) (y := sgn sign)) (Nat.le_refl 1) hk rfl (by (repeat (first | exact List.Mem.head _ | refine List.Mem.tail _ ?_))) (by simp [topI]) rfl (evs_cons (ev_var rfl hk rfl) (evs_cons (ev_var rfl hk rfl) evs_nil rfl) rfl) rfl rfl) ?_
            rw [ltS_sgn]
            congr 1
            by_cases h : a ≤ sign
            · rw [decide_eq_true h, decide_eq_false (by omega)]; rfl
            · rw [decide_eq_false h, decide_eq_true (by omega)]; rfl
          have gt1 : ∀ {p1 p2 p3 p4 p5 p6 p7 p8 : Pos}, EV c ρ1 (.UnaryOp .Not (.Call (.Name "gt" p1) [.Subscript (.Name "row" p2) (.UnaryOp .USub (.Constant (.int 1) 0 p3) p4) p5, .Name "sign" p6] [] p7) p8) (.bool (decide (row.getLastD 0 ≤ sign))) := fun {_ _ _ _ _ _ _ _} => by
            refine ev_to (ev_un (ev_fn (d := dGt) (fn_gt_str (x := sgn (row.getLastD 0)) (y := sgn sign)) (Nat.le_refl 1) hk rfl (by (repeat (first | exact List.Mem.head _ | refine List.Mem.tail _ ?_))) (by simp [topI]) rfl (evs_cons (ev_item (ev_var (p := S row) rfl hk rfl) ev_neg1 (item_last lastR (by simp only [List.length_map]; omega)) (by first | exact (fun _ _ _ _ => rfl) | exact letgo_str)) (evs_cons (ev_var rfl hk rfl) evs_nil rfl) rfl) rfl rfl) un_not) ?_
            rw [ltS_sgn]
            congr 1
            by_cases h : row.getLastD 0 ≤ sign
            · rw [decide_eq_true h, decide_eq_false (by omega)]; rfl
            · rw [decide_eq_false h, decide_eq_true (by omega)]; rfl
          exact eb_ev (ev_fn (d := dEq) fn_eq_bool (Nat.le_refl 1) hk rfl (by (repeat (first | exact List.Mem.head _ | refine List.Mem.tail _ ?_))) (by simp [topI]) rfl (evs_cons le1 (evs_cons gt1 evs_nil rfl) rfl) rfl rfl) true_bool rfl
        cases hb : (decide (a ≤ sign) == decide (row.getLastD 0 ≤ sign)) with
        | true =>
          rw [hb] at test
          have e : movIn (decide (row.getLastD 0 ≤ sign)) sign (a :: r) held laid = movIn (decide (row.getLastD 0 ≤ sign)) sign r [] (laid ++ rotL (held ++ [a])) := by rw [movIn, if_pos hb]
          obtain ⟨held', h⟩ := ih [] (laid ++ rotL (held ++ [a])) hrow hrl (by rw [rotL_snoc]; simp; omega)
          rw [e]
          refine ⟨held', .next (ow₁ := .none) (by simp [Own.name]) (ρ₁ := ("laid", S (laid ++ rotL (held ++ [a]))) :: ("held", S []) :: ("sign", .str (sgn sign)) :: ("row", S row) :: ρb) (exs_cons s1 (exs_cons (ρ' := ("laid", S (laid ++ rotL (held ++ [a]))) :: ("held", S []) :: ("sign", .str (sgn sign)) :: ("row", S row) :: ρb) (ex_if_true test ?_) exs_nil)) h⟩
          have p1 : ∀ {p1 p2 p3 p4 p5 : Pos}, EV c ρ1 (.Subscript (.Name "held" p1) (.Slice (some (.UnaryOp .USub (.Constant (.int 1) 0 p2) p3)) none none p4) p5) (S [a]) := fun {_ _ _ _ _} => by
            refine ev_to (ev_item (ev_var (p := S (held ++ [a])) rfl hk rfl) (ev_slice (epart_some ev_neg1) epart_none epart_none) (item_list_slc (by decide) (by simp only [List.length_map, List.length_append]; simp; omega)) (by first | exact (fun _ _ _ _ => rfl) | exact letgo_str)) ?_
            rw [pickL_map, pickL_map, pick_last]
          have p2 : ∀ {p1 p2 p3 p4 p5 : Pos}, EV c ρ1 (.Subscript (.Name "held" p1) (.Slice none (some (.UnaryOp .USub (.Constant (.int 1) 0 p2) p3)) none p4) p5) (S held) := fun {_ _ _ _ _} => by
            refine ev_to (ev_item (ev_var (p := S (held ++ [a])) rfl hk rfl) (ev_slice epart_none (epart_some ev_neg1) epart_none) (item_list_slc (by decide) (by simp only [List.length_map, List.length_append]; simp; omega)) (by first | exact (fun _ _ _ _ => rfl) | exact letgo_str)) ?_
            rw [pickL_map, pickL_map, pick_init]
          refine exs_cons (ex_assign (p := S (laid ++ rotL (held ++ [a]))) ?_ hk (.inl rfl) (by simp [Own.name]) rfl) (exs_cons (ex_weakR (by repeat' (first | exact SubR.nil | refine SubR.cons rfl ?_)) (ex_assign (ev_list (l := []) evs_nil (by decide)) hk (.inl rfl) (by simp [Own.name]) rfl)) exs_nil)
          rw [rotL_snoc]
          exact cc (b := a :: held) (by simp; omega) (ev_var rfl hk rfl) (cc (a := [a]) (b := held) (by simp; omega) p1 p2 rfl rfl rfl) rfl rfl rfl
        | false =>
          rw [hb] at test
          have e : movIn (decide (row.getLastD 0 ≤ sign)) sign (a :: r) held laid = movIn (decide (row.getLastD 0 ≤ sign)) sign r (held ++ [a]) laid := by rw [movIn, if_neg (by rw [hb]; exact Bool.false_ne_true)]
          obtain ⟨held', h⟩ := ih (held ++ [a]) laid hrow hrl (by simp; omega)
          rw [e]
          exact ⟨held', .next (ow₁ := .none) (by simp [Own.name]) (exs_cons s1 (exs_cons (ex_if_false test exs_nil) (exs_weakR (by repeat' (first | exact SubR.nil | refine SubR.cons rfl ?_)) exs_nil))) h⟩
    have items : ∀ r : List Nat, IterOK c (S r) (r.map fun a => .str (sgn a)) := fun r => by
      have e : (((r.map sgn).map IV.str).map PV.imm) = r.map fun a => PV.str (sgn a) := by rw [List.map_map, List.map_map]; rfl
      rw [← e]; exact iter_list
    have outer : ∀ (w row : List Nat), row.length + w.length ≤ 100 → ForRun c "sign" (forBody (nthS dMoved.body 1)) (w.map fun a => .str (sgn a)) (("row", S row) :: ρb) .none .next (("row", S (moved w row)) :: ρb) .none := by
      intro w
      induction w with
      | nil => intro row _; exact .nil
      | cons s w ih =>
        intro row hlen
        simp only [List.length_cons] at hlen
        have hml := movIn_len (decide (row.getLastD 0 ≤ s)) s row [] []
        simp only [List.length_nil, Nat.zero_add] at hml
        let laid := movIn (decide (row.getLastD 0 ≤ s)) s row [] []
        have hlaid : laid.length ≤ row.length := hml
        have hin : ∃ held', ForRun c "letter" (forBody (nthS (forBody (nthS dMoved.body 1)) 2)) (row.map fun a => .str (sgn a)) (("laid", S []) :: ("held", S []) :: ("sign", .str (sgn s)) :: ("row", S row) :: ρb) .none .next (("laid", S laid) :: ("held", S held') :: ("sign", .str (sgn s)) :: ("row", S row) :: ρb) .none := by
          cases row with
          | nil => exact ⟨[], .nil⟩
          | cons x xs => exact inner s (x :: xs) (x :: xs) [] [] (by simp) (by simp at hlen ⊢; omega) (by simp at hlen ⊢; omega)
        obtain ⟨held', hin⟩ := hin
        refine .next (ow₁ := .none) (by simp [Own.name]) (ρ₁ := ("row", S (movStep row s)) :: ρb) ?_ (ih (movStep row s) (by show (laid ++ [s]).length + _ ≤ _; rw [List.length_append, List.length_singleton]; omega))
        have ms : movStep row s = laid ++ [s] := rfl
        rw [ms]
        refine exs_cons (ex_assign (ev_list (l := []) evs_nil (by decide)) hk (.inl rfl) (by simp [Own.name]) rfl) (exs_cons (ex_assign (ev_list (l := []) evs_nil (by decide)) hk (.inl rfl) (by simp [Own.name]) rfl) (exs_cons (ex_weak (by repeat' (first | exact SubR.nil | refine SubR.cons rfl ?_)) (ex_for (ev_var (p := S row) rfl hk rfl) (items row) hin hk (.inl rfl) (.inl ⟨rfl, exs_nil⟩) fun _ => rfl)) (exs_cons (ex_assign (cc (b := [s]) (by simp; omega) (ev_var (p := S laid) rfl hk rfl) (ev_list (l := [.str (sgn s)]) (evs_cons (ev_var rfl hk rfl) evs_nil rfl) (Nat.le_of_ble_eq_true rfl)) rfl rfl rfl) hk (.inl rfl) (by simp [Own.name]) rfl) (exs_cons (ex_weakR (ρ'' := ("row", S (laid ++ [s])) :: ρb) (by repeat' (first | exact SubR.nil | refine SubR.cons rfl ?_)) (ex_if_false ?_ exs_nil)) exs_nil))))
        have ln : ∀ {ρ : Rho} {x : Str} {r : List Nat} {p1 p2 p3 : Pos}, r.length ≤ 1000 → ρ.lookup x = some (S r) → (x == ("__debug__" : Str)) = false → EV c ρ (.Call (.Name "len" p1) [.Name x p2] [] p3) (.int (r.length : Int)) := fun {ρ x r p1 p2 p3} hr h1 h2 => by
          refine ev_to (ev_call (ev_blt (u := .builtin "len") hk rfl (by (repeat (first | exact List.Mem.head _ | refine List.Mem.tail _ ?_))) (by (repeat (first | exact List.Mem.head _ | refine List.Mem.tail _ ?_))) rfl) (evs_cons (ev_var h1 hk h2) evs_nil rfl) (call_len_list (by simp only [List.length_map]; omega)) (.inl ⟨_, rfl⟩) rfl) ?_
          rw [List.length_map, List.length_map]
        have := eb_cmp (c := c) (pos := ⟨104, 11, 104, 32⟩) (ln (ρ := ("row", S (laid ++ [s])) :: ("laid", S laid) :: ("held", S held') :: ("sign", .str (sgn s)) :: ("row", S row) :: ρb) (x := "row") (r := laid ++ [s]) (p1 := ⟨104, 11, 104, 14⟩) (p2 := ⟨104, 15, 104, 18⟩) (p3 := ⟨104, 11, 104, 19⟩) (by simp; omega) rfl rfl) (ln (x := "laid") (r := laid) (p1 := ⟨104, 23, 104, 26⟩) (p2 := ⟨104, 27, 104, 31⟩) (p3 := ⟨104, 23, 104, 32⟩) (by omega) rfl rfl) cmp_eq_int rfl
        have e : (((laid ++ [s]).length : Int) == (laid.length : Int)) = false := by
          refine beq_eq_false_iff_ne.mpr ?_
          rw [List.length_append, List.length_singleton]; omega
        rw [e] at this
        exact this
    have itw : IterOK c (.str ⟨l.toArray⟩) (l.map fun a => .str (sgn a)) := by
      have := iter_str (c := c) (x := ⟨l.toArray⟩)
      rw [chars_eq, List.map_map] at this
      exact this
    exact ⟨_, _, exs_cons (ex_assign (ev_list (l := []) evs_nil (by decide)) hk (.inl rfl) (by simp [Own.name]) rfl) (exs_cons (ex_for (ev_var (p := .str ⟨l.toArray⟩) rfl hk rfl) itw (outer l [] (by simpa using hl)) hk (.inl rfl) (.inl ⟨rfl, exs_nil⟩) fun _ => rfl) (cons_ret (ex_ret (ev_var rfl hk rfl))))⟩
end
end Mine
end
section
open PySem PySem.W PySem.Calls PyProof.Rows PySem.Spec
set_option maxRecDepth 100000
namespace Mine
noncomputable def toldN : List Nat → List Nat → List Nat → List Nat
  | [], _, row => row
  | d :: ds, st, row => toldN ds (st.take (d - 1) ++ st.drop d) (row ++ [st.getD (d - 1) 0])
noncomputable def okD : List Nat → Nat → Prop
  | [], _ => True
  | d :: ds, n => 1 ≤ d ∧ d ≤ n ∧ okD ds (n - 1)
theorem eb_to {c : Cx} {ρ : Rho} {e : Expr} {a b : Bool} (h : EB c ρ e a) (q : a = b) : EB c ρ e b := q ▸ h
theorem own_ne {x y : Str} {l : List IV} (h : x ≠ y) : (Own.one x l).name ≠ some y := fun e => h (Option.some.inj e)
theorem own_ne' {x y : Str} {l : List (List IV)} (h : x ≠ y) : (Own.nest x l).name ≠ some y := fun e => h (Option.some.inj e)
theorem ev_len_strs {c : Cx} {ρ : Rho} (hk : EnvOK c.env) (hI : c.I = topI) {x : Str} {r : List Nat} {p1 p2 p3 : Pos} (hkk : c.env.kindOf "len" = some .globalImplicit) (hs : (starEach [Expr.Name x p2] c.env).all (fun x => !x.1) = true) (hs2 : starEach [Expr.Name x p2] c.env = (false, eval (.Name x p2) c.env) :: starEach [] c.env) (hr : r.length ≤ 100000) (h1 : ρ.lookup x = some (.strs (r.map sgn))) (h2 : (x == ("__debug__" : Str)) = false) :
    EV c ρ (.Call (.Name "len" p1) [.Name x p2] [] p3) (.int (r.length : Int)) := by
  refine ev_to (ev_call (ev_blt (u := .builtin "len") hk hkk (by rw [hI]; (repeat (first | exact List.Mem.head _ | refine List.Mem.tail _ ?_))) (by rw [hI]; (repeat (first | exact List.Mem.head _ | refine List.Mem.tail _ ?_))) rfl) (evs_cons (ev_var h1 hk h2) evs_nil hs2) (call_len_list (by simp only [List.length_map]; omega)) (.inl ⟨_, rfl⟩) hs) ?_
  rw [List.length_map, List.length_map]
section
variable {prog : Program} {w : World}
set_option maxHeartbeats 2000000 in
theorem fn_told {ds st : List Nat} (hok : okD ds st.length) (hl : st.length ≤ 100) (hd : ds.length ≤ 100) : FN prog w topI dTold 1 [.strs (ds.map dotsS), .strs (st.map sgn)] (.strs ((toldN ds st []).map sgn)) :=
  fn_intro (by simp [topI]) okTold rfl fun A L cdv lo hk => by
    let c : Cx := ⟨prog, w, A, envC dTold L cdv, 0, topI, lo⟩
    let S : List Nat → PV := fun l => .strs (l.map sgn)
    let O : List Nat → Own := fun l => .one "row" ((l.map sgn).map IV.str)
    have loop : ∀ (ds st row : List Nat), okD ds st.length → st.length ≤ 100 → row.length + ds.length ≤ 1000 → ∃ st', ForRun c "text" (forBody (nthS dTold.body 1)) (ds.map fun d => .str (dotsS d)) [("stock", S st)] (O row) .next [("stock", S st')] (O (toldN ds st row)) := by
      intro ds
      induction ds with
      | nil => intro st row _ _ _; exact ⟨st, .nil⟩
      | cons d ds ih =>
        intro st row hok hst hrow
        obtain ⟨h1, h2, h3⟩ := hok
        simp only [List.length_cons] at hrow
        let st2 := st.take (d - 1) ++ st.drop d
        have hst2 : st2.length = st.length - 1 := by
          show (st.take (d - 1) ++ st.drop d).length = _
          rw [List.length_append, List.length_take, List.length_drop]; omega
        obtain ⟨st', h⟩ := ih st2 (row ++ [st.getD (d - 1) 0]) (by rw [hst2]; exact h3) (by omega) (by simp; omega)
        refine ⟨st', .next (own_ne (by decide)) ?_ h⟩
        let ρ0 : Rho := [("text", .str (dotsS d)), ("stock", S st)]
        let ρ1 : Rho := ("size", .int (d : Int)) :: ρ0
        have hdl : (dotsS d).length = d := by show (List.replicate d 46).toArray.size = d; simp
        have s1 : EX c (nthS (forBody (nthS dTold.body 1)) 0) ρ0 (O row) .next ρ1 (O row) := by
          refine ex_assign (ev_to (ev_call (ev_blt (u := .builtin "len") hk rfl (by (repeat (first | exact List.Mem.head _ | refine List.Mem.tail _ ?_))) (by (repeat (first | exact List.Mem.head _ | refine List.Mem.tail _ ?_))) rfl) (evs_cons (ev_var (p := .str (dotsS d)) rfl hk rfl) evs_nil rfl) (call_len_str (by rw [hdl]; omega)) (.inl ⟨_, rfl⟩) rfl) (by rw [hdl])) hk (.inl rfl) (own_ne (by decide)) rfl
        have szE : ∀ {p : Pos}, EV c ρ1 (.Name "size" p) (.int (d : Int)) := ev_var rfl hk rfl
        have sub1 : ∀ {p1 p2 p3 : Pos}, EV c ρ1 (.BinOp (.Name "size" p1) .Sub (.Constant (.int 1) 0 p2) p3) (.int ((d - 1 : Nat) : Int)) := fun {_ _ _} => ev_to (ev_bin szE ev_int bin_sub_int) (by show PV.int _ = PV.int _; congr 1; omega)
        have t1 : EB c ρ1 (match nthS (forBody (nthS dTold.body 1)) 1 with | .If t _ _ _ => t | _ => .Constant .none 0 ⟨0, 0, 0, 0⟩) false := by
          have a1 : ∀ {p1 p2 p3 : Pos}, EB c ρ1 (.Compare (.Name "size" p1) [.Eq] [.Constant (.int 0) 0 p2] p3) false := fun {_ _ _} =>
            eb_to (eb_cmp szE (ev_int (i := 0)) cmp_eq_int rfl) (beq_eq_false_iff_ne.mpr (by omega))
          have a2 : ∀ {p1 p2 p3 p4 p5 : Pos}, EB c ρ1 (.Compare (.Name "size" p1) [.Gt] [.Call (.Name "len" p2) [.Name "stock" p3] [] p4] p5) false := fun {_ _ _ _ _} =>
            eb_to (eb_cmp szE (ev_len_strs (r := st) (x := "stock") hk rfl rfl rfl rfl (by omega) rfl rfl) cmp_gt_int rfl) (decide_eq_false (by omega))
          have a3 : ∀ {p1 p2 p3 p4 p5 : Pos}, EB c ρ1 (.Compare (.Name "text" p1) [.NotEq] [.BinOp (.Constant (.str ".") 0 p2) .Mult (.Name "size" p3) p4] p5) false := fun {_ _ _ _ _} =>
            eb_to (eb_cmp (ev_var (x := "text") (p := .str (dotsS d)) rfl hk rfl) (ev_bin (ev_to ev_str (show PV.str (Str.ofString ".") = .str ⟨#[46]⟩ by rfl)) szE (bin_mul_dots h1 (by omega))) cmp_ne_str rfl) (by simp)
          exact eb_to (eb_or_cons a1 fun _ => eb_or_cons a2 fun _ => eb_or_cons a3 fun _ => eb_or_nil) rfl
        have s3 : EX c (nthS (forBody (nthS dTold.body 1)) 2) ρ1 (O row) .next ρ1 (O (row ++ [st.getD (d - 1) 0])) := by
          have eO : O (row ++ [st.getD (d - 1) 0]) = .one "row" ((row.map sgn).map IV.str ++ [.str (sgn (st.getD (d - 1) 0))]) := by show Own.one _ _ = _; rw [List.map_append, List.map_append]; rfl
          rw [eO]
          have hget : ((st.map sgn).map IV.str)[d - 1]? = some (.str (sgn (st.getD (d - 1) 0))) := by
            have hlt : d - 1 < st.length := by omega
            rw [List.getElem?_map, List.getElem?_map, List.getElem?_eq_getElem hlt, List.getD_eq_getElem?_getD, List.getElem?_eq_getElem hlt]; rfl
          exact ex_own_append hk (ev_item (ev_var (p := S st) rfl hk rfl) sub1 (item_list hget (by simp only [List.length_map]; omega)) (by first | exact (fun _ _ _ _ => rfl) | exact letgo_str)) rfl rfl (by simp only [List.length_map]; omega) rfl rfl rfl rfl rfl rfl
        have s4 : EX c (nthS (forBody (nthS dTold.body 1)) 3) ρ1 (O (row ++ [st.getD (d - 1) 0])) .next [("stock", S st2)] (O (row ++ [st.getD (d - 1) 0])) := by
          refine ex_weakR (ρ' := ("stock", S st2) :: ρ1) (by repeat' (first | exact SubR.nil | refine SubR.cons rfl ?_)) (ex_assign (ev_to (ev_bin (ev_item (ev_var (p := S st) rfl hk rfl) (ev_slice epart_none (epart_some sub1) epart_none) (item_list_slc (by decide) (by simp only [List.length_map]; omega)) (by first | exact (fun _ _ _ _ => rfl) | exact letgo_str)) (ev_item (ev_var (p := S st) rfl hk rfl) (ev_slice (epart_some szE) epart_none epart_none) (item_list_slc (by decide) (by simp only [List.length_map]; omega)) (by first | exact (fun _ _ _ _ => rfl) | exact letgo_str)) (bin_add_list ?_)) ?_) hk (.inl rfl) (own_ne (by decide)) rfl)
          · rw [pickL_map, pickL_map, pickL_map, pickL_map, pick_to, pick_from]
            simp only [List.length_map, List.length_take, List.length_drop]; omega
          · rw [pickL_map, pickL_map, pickL_map, pickL_map, pick_to, pick_from]
            show PV.list _ = PV.list _
            rw [List.map_append, List.map_append]
        exact exs_cons s1 (exs_cons (ex_if_false t1 exs_nil) (exs_cons s3 (exs_cons s4 exs_nil)))
    have items : IterOK c (.strs (ds.map dotsS)) (ds.map fun d => .str (dotsS d)) := by
      have e : (((ds.map dotsS).map IV.str).map PV.imm) = ds.map fun a => PV.str (dotsS a) := by rw [List.map_map, List.map_map]; rfl
      rw [← e]; exact iter_list
    obtain ⟨st', l0⟩ := loop ds st [] hok hl (by simp; omega)
    exact ⟨_, _, exs_cons (ex_own_new (ρ' := [("stock", S st), ("dots", .strs (ds.map dotsS))]) hk (.inl rfl) (fun _ _ e => e) rfl rfl (O []) (.inl rfl)) (exs_cons (ex_for (ev_var (p := .strs (ds.map dotsS)) rfl hk rfl) items (.weak (by repeat' (first | exact SubR.nil | refine SubR.cons rfl ?_)) l0) hk (.inl rfl) (.inl ⟨rfl, exs_nil⟩) fun _ => rfl) (exs_freeze (cons_ret (ex_ret (ev_var rfl hk rfl)))))⟩
end
end Mine
end
section
open PySem PySem.W PySem.Calls PyProof.Rows PySem.Spec
set_option maxRecDepth 100000
namespace Mine
noncomputable def wordS (l : List Nat) : Str := ⟨l.toArray⟩
theorem wordS_cons (a : Nat) (l : List Nat) : sgn a ++ wordS l = wordS (a :: l) := by
  apply Str.ext'
  simp [Str.cps_append, sgn, wordS]
theorem wordS_len (l : List Nat) : (wordS l).length = l.length := by show l.toArray.size = _; simp
noncomputable def pcIn (big : Bool) (sign : Nat) : List Nat → List (List Nat) → List Nat → List (List Nat)
  | [], ls, l => ls ++ [l]
  | a :: r, ls, l => if (decide (a ≤ sign) == big) = true then pcIn big sign r (ls ++ [l]) [a] else pcIn big sign r ls (l ++ [a])
noncomputable def piecesN (sign : Nat) : List Nat → List (List Nat)
  | [] => []
  | a :: r => pcIn (decide (a ≤ sign)) sign r [] [a]
noncomputable def backRow (sign : Nat) (row : List Nat) : List Nat := (piecesN sign row).flatMap fun p => p.drop 1 ++ p.take 1
noncomputable def backW : Nat → List Nat → List Nat → List Nat
  | 0, _, word => word
  | n + 1, row, word => match row.getLast? with
    | none => word
    | some s => backW n (backRow s row.dropLast) (s :: word)
theorem pcIn_len (big : Bool) (sign : Nat) : ∀ (r : List Nat) (ls : List (List Nat)) (l : List Nat), ((pcIn big sign r ls l).map (·.length)).sum = (ls.map (·.length)).sum + l.length + r.length ∧ (pcIn big sign r ls l).length ≤ ls.length + 1 + r.length
  | [], ls, l => by simp [pcIn]
  | a :: r, ls, l => by
    unfold pcIn
    split
    · have := pcIn_len big sign r (ls ++ [l]) [a]
      simp only [List.map_append, List.sum_append, List.map_cons, List.map_nil, List.sum_cons, List.sum_nil, List.length_append, List.length_cons, List.length_nil] at this ⊢
      omega
    · have := pcIn_len big sign r ls (l ++ [a])
      simp only [List.length_append, List.length_cons, List.length_nil] at this ⊢
      omega
theorem flatMap_len {g : List Nat → List Nat} (hg : ∀ p, (g p).length = p.length) : ∀ ls : List (List Nat), (ls.flatMap g).length = (ls.map (·.length)).sum
  | [] => rfl
  | p :: ls => by rw [List.flatMap_cons, List.length_append, hg, flatMap_len hg ls]; simp
theorem rot1_len (p : List Nat) : (p.drop 1 ++ p.take 1).length = p.length := by rw [List.length_append, List.length_drop, List.length_take]; omega
theorem backRow_len (sign : Nat) (row : List Nat) : (backRow sign row).length = row.length := by
  unfold backRow
  rw [flatMap_len rot1_len]
  cases row with
  | nil => rfl
  | cons a r => have := (pcIn_len (decide (a ≤ sign)) sign r [] [a]).1; simp only [piecesN] at this ⊢; rw [this]; simp; omega
theorem pcIn_mem (big : Bool) (sign : Nat) (P : Nat → Prop) : ∀ (r : List Nat) (ls : List (List Nat)) (l : List Nat), (∀ a ∈ r, P a) → (∀ p ∈ ls, ∀ a ∈ p, P a) → (∀ a ∈ l, P a) → ∀ p ∈ pcIn big sign r ls l, ∀ a ∈ p, P a
  | [], ls, l, _, h2, h3, p, hp, a, ha => by
    rcases List.mem_append.mp hp with h | h
    · exact h2 p h a ha
    · rw [List.mem_singleton.mp h] at ha; exact h3 a ha
  | b :: r, ls, l, h1, h2, h3, p, hp, a, ha => by
    unfold pcIn at hp
    split at hp
    · refine pcIn_mem big sign P r (ls ++ [l]) [b] (fun x hx => h1 x (List.mem_cons_of_mem _ hx)) (fun q hq => ?_) (fun x hx => ?_) p hp a ha
      · rcases List.mem_append.mp hq with h | h
        · exact h2 q h
        · rw [List.mem_singleton.mp h]; exact h3
      · rw [List.mem_singleton.mp hx]; exact h1 b List.mem_cons_self
    · refine pcIn_mem big sign P r ls (l ++ [b]) (fun x hx => h1 x (List.mem_cons_of_mem _ hx)) h2 (fun x hx => ?_) p hp a ha
      rcases List.mem_append.mp hx with h | h
      · exact h3 x h
      · rw [List.mem_singleton.mp h]; exact h1 b List.mem_cons_self
theorem backRow_mem {sign : Nat} {row : List Nat} {P : Nat → Prop} (h : ∀ a ∈ row, P a) : ∀ a ∈ backRow sign row, P a := by
  intro a ha
  unfold backRow at ha
  obtain ⟨p, hp, hap⟩ := List.mem_flatMap.mp ha
  have hm : a ∈ p := by
    rcases List.mem_append.mp hap with h | h
    · exact List.mem_of_mem_drop h
    · exact List.mem_of_mem_take h
  cases row with
  | nil => cases hp
  | cons b r =>
    exact pcIn_mem _ sign P r [] [b] (fun x hx => h x (List.mem_cons_of_mem _ hx)) (fun _ h => nomatch h) (fun x hx => by rw [List.mem_singleton.mp hx]; exact h b List.mem_cons_self) p hp a hm
theorem le_sum {x : Nat} : ∀ {l : List Nat}, x ∈ l → x ≤ l.sum
  | y :: l, h => by
    rw [List.sum_cons]
    rcases List.mem_cons.mp h with rfl | h
    · omega
    · have := le_sum h; omega
theorem run_turns {c : Cx} {cenv : Env} {act : Value → Sem Unit} {x : Str} {ρc : Rho} {α : Type} {f : α → PV} {g : α → List IV} : ∀ (l : List α), (∀ y ∈ l, TurnOK c cenv act ((x, f y) :: ρc) (g y)) → CompRun c cenv act x ρc (l.map f) (l.flatMap g)
  | [], _ => .nil
  | y :: r, h => by
    rw [List.flatMap_cons]
    exact CompRun.cons (h y List.mem_cons_self) (run_turns r fun z hz => h z (List.mem_cons_of_mem _ hz))
section
variable {prog : Program} {w : World}
set_option maxHeartbeats 2000000 in
theorem fn_back {l : List Nat} (hl : l.length ≤ 100) (hb : ∀ a ∈ l, a < 0x110000) : FN prog w topI dBack 1 [.strs (l.map sgn)] (.str (wordS (backW l.length l []))) :=
  fn_intro (by simp [topI]) okBack rfl fun A L cdv lo hk => by
    let c : Cx := ⟨prog, w, A, envC dBack L cdv, 0, topI, lo⟩
    let S : List Nat → PV := fun l => .strs (l.map sgn)
    let Ls : List (List Nat) → List (List IV) := fun ls => ls.map fun l => l.map fun a => IV.str (sgn a)
    have eS : ∀ l : List Nat, (l.map sgn).map IV.str = l.map fun a => IV.str (sgn a) := fun l => by rw [List.map_map]; rfl
    let R : List Nat → List Nat → Rho := fun row word => [("word", .str (wordS word)), ("row", S row)]
    let bodyW := forBody (nthS dBack.body 1)
    have leE : ∀ {ρ : Rho} {e1 e2 : Expr} {p : Pos} {a b : Nat}, EV c ρ e1 (.str (sgn a)) → EV c ρ e2 (.str (sgn b)) → behindInMarks .LtE e2 = false → EV c ρ (.Compare e1 [.LtE] [e2] p) (.bool (decide (a ≤ b))) := fun {ρ e1 e2 p a b} h1 h2 h3 => by
      refine ev_to (ev_cmp h1 h2 cmp_le_str h3) ?_
      rw [ltS_sgn]
      congr 1
      by_cases h : a ≤ b
      · rw [decide_eq_true h, decide_eq_false (by omega)]; rfl
      · rw [decide_eq_false h, decide_eq_true (by omega)]; rfl
    have items : ∀ r : List Nat, IterOK c (S r) (r.map fun a => .str (sgn a)) := fun r => by
      have e : (((r.map sgn).map IV.str).map PV.imm) = r.map fun a => PV.str (sgn a) := by rw [List.map_map, List.map_map]; rfl
      rw [← e]; exact iter_list
    have pcs : ∀ (W : Str) (sign x : Nat) (xs : List Nat), xs.length ≤ 100 → ∀ (r : List Nat) (ls : List (List Nat)) (l : List Nat), ls.length + l.length + 2 * r.length ≤ 1000 →
        ForRun c "letter" (forBody (nthS bodyW 4)) (r.map fun a => .str (sgn a)) [("sign", .str (sgn sign)), ("row", S (x :: xs)), ("word", .str W)] (.nest "pieces" (Ls (ls ++ [l]))) .next [("sign", .str (sgn sign)), ("row", S (x :: xs)), ("word", .str W)] (.nest "pieces" (Ls (pcIn (decide (x ≤ sign)) sign r ls l))) := by
      intro W sign x xs hxs r
      induction r with
      | nil => intro ls l _; exact .nil
      | cons a r ih =>
        intro ls l hlen
        simp only [List.length_cons] at hlen
        let ρ0 : Rho := [("letter", .str (sgn a)), ("sign", .str (sgn sign)), ("row", S (x :: xs)), ("word", .str W)]
        have t1 : EB c ρ0 (match nthS (forBody (nthS bodyW 4)) 0 with | .If t _ _ _ => t | _ => .Constant .none 0 ⟨0, 0, 0, 0⟩) (decide (a ≤ sign) == decide (x ≤ sign)) :=
          eb_cmp (leE (ev_var rfl hk rfl) (ev_var rfl hk rfl) rfl) (leE (ev_item (ev_var (p := S (x :: xs)) rfl hk rfl) (ev_int (i := 0)) (item_list (k := 0) (i := .str (sgn x)) rfl (by simp only [List.length_map, List.length_cons]; omega)) (by first | exact (fun _ _ _ _ => rfl) | exact letgo_str)) (ev_var rfl hk rfl) rfl) cmp_eq_bool rfl
        have eL : EV c ρ0 (.Name "letter" ⟨141, 30, 141, 36⟩) (.imm (.str (sgn a))) := ev_var rfl hk rfl
        cases hc : (decide (a ≤ sign) == decide (x ≤ sign)) with
        | true =>
          rw [hc] at t1
          have e : pcIn (decide (x ≤ sign)) sign (a :: r) ls l = pcIn (decide (x ≤ sign)) sign r (ls ++ [l]) [a] := by rw [pcIn, if_pos hc]
          rw [e]
          have h := ih (ls ++ [l]) [a] (by simp; omega)
          have e1 : Ls (ls ++ [l]) ++ [[]] = Ls (ls ++ [l]) ++ [[]] := rfl
          have e2 : Ls ((ls ++ [l]) ++ [[a]]) = Ls (ls ++ [l]) ++ [[] ++ [IV.str (sgn a)]] := by show List.map _ _ = _; rw [List.map_append]; rfl
          rw [e2] at h
          refine .next (own_ne' (by decide)) (exs_cons (ex_if_true t1 (exs_cons (ex_nest_push hk rfl rfl (by show (List.map _ _).length ≤ _; simp; omega) rfl rfl rfl rfl rfl) exs_nil)) (exs_cons (ex_weakR (by repeat' (first | exact SubR.nil | refine SubR.cons rfl ?_)) (ex_nest_last hk eL ev_neg1 rfl rfl (by simp) (by show (List.map _ _).length ≤ _; simp; omega) rfl rfl rfl rfl (fun _ _ => rfl) rfl rfl)) exs_nil)) h
        | false =>
          rw [hc] at t1
          have e : pcIn (decide (x ≤ sign)) sign (a :: r) ls l = pcIn (decide (x ≤ sign)) sign r ls (l ++ [a]) := by rw [pcIn, if_neg (by rw [hc]; exact Bool.false_ne_true)]
          rw [e]
          have h := ih ls (l ++ [a]) (by simp; omega)
          have e2 : Ls (ls ++ [l ++ [a]]) = Ls ls ++ [(l.map fun a => IV.str (sgn a)) ++ [IV.str (sgn a)]] := by show List.map _ _ = _; rw [List.map_append]; simp [Ls]
          have e3 : Ls (ls ++ [l]) = Ls ls ++ [l.map fun a => IV.str (sgn a)] := by show List.map _ _ = _; rw [List.map_append]; rfl
          rw [e2] at h
          rw [e3]
          exact .next (own_ne' (by decide)) (exs_cons (ex_if_false t1 exs_nil) (exs_cons (ex_weakR (by repeat' (first | exact SubR.nil | refine SubR.cons rfl ?_)) (ex_nest_last hk eL ev_neg1 rfl rfl (by simp; omega) (by show (List.map _ _).length ≤ _; simp; omega) rfl rfl rfl rfl (fun _ _ => rfl) rfl rfl)) exs_nil)) h
    have comp : ∀ (ls : List (List Nat)) (ρ : Rho), ρ.lookup (Str.ofString "pieces") = some (PV.lists (Ls ls)) → (ls.map (·.length)).sum ≤ 1000 → (∀ p ∈ ls, p.length ≤ 1000) → EX c (nthS bodyW 5) ρ .none .next (("row", S (ls.flatMap fun p => p.drop 1 ++ p.take 1)) :: ρ) .none := by
      intro ls ρ hρ hsum hps
      have eR : S (ls.flatMap fun p => p.drop 1 ++ p.take 1) = .list (ls.flatMap fun p => (p.drop 1 ++ p.take 1).map fun a => IV.str (sgn a)) := by
        show PV.list _ = PV.list _
        rw [List.map_map, List.map_flatMap]; rfl
      rw [eR]
      have hitem : IterOK c (.lists (Ls ls)) (ls.map fun p => PV.list (p.map fun a => IV.str (sgn a))) := by
        have := iter_lists (c := c) (ls := Ls ls)
        rw [show (Ls ls).map PV.list = ls.map fun p => PV.list (p.map fun a => IV.str (sgn a)) from by show List.map _ (List.map _ _) = _; rw [List.map_map]; rfl] at this
        exact this
      refine ex_assign_comp [] [] (act := fun cenv => actIn (retE (nthS bodyW 5)) (match retE (nthS bodyW 5) with | .ListComp _ [_, g] _ _ => g.iter | _ => .Constant .none 0 ⟨0, 0, 0, 0⟩) cenv) rfl (ev_var hρ hk rfl) hitem hk (fun C => ?_) (fun C => rule_outer) ?_ rfl (by decide) (fun _ => rfl) (by decide) rfl rfl rfl SubR.nil (fun _ => trivial) rfl (.inl rfl) (by simp [Own.name])
      · refine run_turns ls fun p hp => ?_
        have hpl := hps p hp
        have hk1 : EnvOK (compEnvC (scopeOf (retE (nthS bodyW 5))) [] C c.env) := ⟨rfl, rfl, rfl⟩
        refine turn_in (p := .list ((p.drop 1 ++ p.take 1).map fun a => IV.str (sgn a))) (items := (p.drop 1 ++ p.take 1).map fun a => .str (sgn a)) (ρc := []) ?_ ?_ hk1 rfl rfl (run_map _ fun y _ => ev_var rfl hk1 rfl) (fun _ _ => .inl (fun y p e => by simp at e)) rfl (fun _ => rfl)
        · refine ev_to (ev_bin (ev_item (ev_var (p := .list (p.map fun a => IV.str (sgn a))) rfl hk1 rfl) (ev_slice (epart_some (ev_int (i := ((1 : Nat) : Int)))) epart_none epart_none) (item_list_slc (by decide) (by simp only [List.length_map]; omega)) (by first | exact (fun _ _ _ _ => rfl) | exact letgo_str)) (ev_item (ev_var (p := .list (p.map fun a => IV.str (sgn a))) rfl hk1 rfl) (ev_slice epart_none (epart_some (ev_int (i := ((1 : Nat) : Int)))) epart_none) (item_list_slc (by decide) (by simp only [List.length_map]; omega)) (by first | exact (fun _ _ _ _ => rfl) | exact letgo_str)) (bin_add_list ?_)) ?_
          · rw [pickL_map, pickL_map, pick_from, pick_to]; simp only [List.length_map, List.length_drop, List.length_take]; omega
          · rw [pickL_map, pickL_map, pick_from, pick_to, List.map_append]
        · have := iter_list (c := { c with env := compEnvC (scopeOf (retE (nthS bodyW 5))) [] C c.env }) (l := (p.drop 1 ++ p.take 1).map fun a => IV.str (sgn a))
          rw [List.map_map] at this
          exact this
      · have : (ls.flatMap fun p => (p.drop 1 ++ p.take 1).map fun a => IV.str (sgn a)).length = (ls.flatMap fun p => p.drop 1 ++ p.take 1).length := by
          rw [← List.length_map (f := fun a => IV.str (sgn a)), List.map_flatMap]
        rw [this, flatMap_len rot1_len]; omega
    have loop : ∀ (n : Nat) (row word : List Nat), row.length ≤ n → n ≤ 100 → word.length + n ≤ 100 → (∀ a ∈ row, a < 0x110000) → ∃ row', WhileRun c (whTest (nthS dBack.body 1)) bodyW n (R row word) .none (R row' (backW n row word)) .none := by
      intro n
      induction n with
      | zero =>
        intro row word hr _ _ hb
        obtain rfl : row = [] := List.eq_nil_of_length_eq_zero (by omega)
        refine ⟨[], .stop ?_⟩
        exact eb_to (eb_cmp (ev_var (p := S []) rfl hk rfl) (ev_list (l := []) evs_nil (by decide)) (cmp_ne_strs (ys := []) (zs := []) (fun _ h => nomatch h) (fun _ h => nomatch h)) rfl) (by decide)
      | succ n ih =>
        intro row word hr hn hw hb
        rcases List.eq_nil_or_concat row with rfl | ⟨r, s, rfl⟩
        · refine ⟨[], .stop ?_⟩
          exact eb_to (eb_cmp (ev_var (p := S []) rfl hk rfl) (ev_list (l := []) evs_nil (by decide)) (cmp_ne_strs (ys := []) (zs := []) (fun _ h => nomatch h) (fun _ h => nomatch h)) rfl) (by decide)
        · have hrl : r.length ≤ n := by simp at hr; omega
          have hbr : ∀ a ∈ r, a < 0x110000 := fun a ha => hb a (by simp [ha])
          have hsk : ∀ y ∈ (r ++ [s]).map sgn, PyData.strOk y = true := fun y hy => by
            obtain ⟨a, ha, rfl⟩ := List.mem_map.mp hy
            have := hb a (by simpa using ha)
            show ((#[a] : Array Nat).all (· < 0x110000)) = true
            simpa using this
          have eb : backW (n + 1) (r ++ [s]) word = backW n (backRow s r) (s :: word) := by
            show (match (r ++ [s]).getLast? with | none => word | some t => backW n (backRow t (r ++ [s]).dropLast) (t :: word)) = _
            rw [List.getLast?_concat, List.dropLast_concat]
          have hcat : r.concat s = r ++ [s] := by simp
          rw [hcat] at *
          rw [eb]
          obtain ⟨row', h⟩ := ih (backRow s r) (s :: word) (by rw [backRow_len]; exact hrl) (by omega) (by simp; omega) (backRow_mem hbr)
          have lst : ((r ++ [s]).map sgn).map IV.str = (r.map fun a => IV.str (sgn a)) ++ [IV.str (sgn s)] := by rw [List.map_append, List.map_append, List.map_map]; rfl
          have t0 : EB c (R (r ++ [s]) word) (whTest (nthS dBack.body 1)) true :=
            eb_to (eb_cmp (ev_var (p := S (r ++ [s])) rfl hk rfl) (ev_list (l := []) evs_nil (by decide)) (cmp_ne_strs (ys := (r ++ [s]).map sgn) (zs := []) hsk (fun _ h => nomatch h)) rfl) (by simp)
          let ρ1 : Rho := ("sign", .str (sgn s)) :: R (r ++ [s]) word
          let ρ2 : Rho := ("row", S r) :: ρ1
          let ρ3 : Rho := ("word", .str (wordS (s :: word))) :: ρ2
          let ρ4 : Rho := [("sign", .str (sgn s)), ("row", S r), ("word", .str (wordS (s :: word)))]
          have s0 : EX c (nthS bodyW 0) (R (r ++ [s]) word) .none .next ρ1 .none :=
            ex_assign (ev_item (ev_var (p := S (r ++ [s])) rfl hk rfl) ev_neg1 (item_last (by rw [lst, List.getLast?_concat]) (by simp only [List.length_map, List.length_append, List.length_singleton]; omega)) (by first | exact (fun _ _ _ _ => rfl) | exact letgo_str)) hk (.inl rfl) (by simp [Own.name]) rfl
          have s1 : EX c (nthS bodyW 1) ρ1 .none .next ρ2 .none := by
            refine ex_assign (ev_to (ev_item (ev_var (p := S (r ++ [s])) rfl hk rfl) (ev_slice epart_none (epart_some ev_neg1) epart_none) (item_list_slc (by decide) (by simp only [List.length_map, List.length_append, List.length_singleton]; omega)) (by first | exact (fun _ _ _ _ => rfl) | exact letgo_str)) ?_) hk (.inl rfl) (by simp [Own.name]) rfl
            rw [pickL_map, pickL_map, pick_init]
          have s2 : EX c (nthS bodyW 2) ρ2 .none .next ρ3 .none := by
            refine ex_assign (ev_to (ev_bin (ev_var (p := .str (sgn s)) rfl hk rfl) (ev_var (p := .str (wordS word)) rfl hk rfl) (bin_add_str ?_)) ?_) hk (.inl rfl) (by simp [Own.name]) rfl
            · rw [wordS_len]; exact Nat.le_trans (show 1 + word.length ≤ 200 by omega) (by decide)
            · rw [wordS_cons]
          have s3 : EX c (nthS bodyW 3) ρ3 .none .next ρ4 (.nest "pieces" (Ls [])) :=
            ex_own_new hk (.inl rfl) (by repeat' (first | exact SubR.nil | refine SubR.cons rfl ?_)) rfl rfl _ (.inr rfl)
          have s4 : EX c (nthS bodyW 4) ρ4 (.nest "pieces" (Ls [])) .next ρ4 (.nest "pieces" (Ls (piecesN s r))) := by
            refine ex_for (fl := .next) (ρ' := ρ4) (ow' := .nest "pieces" (Ls (piecesN s r))) (ev_var (p := S r) rfl hk rfl) (items r) ?_ hk (.inl rfl) (.inl ⟨rfl, exs_nil⟩) fun _ => rfl
            cases r with
            | nil => exact .nil
            | cons x xs =>
              have hx := pcs (wordS (s :: word)) s x xs (by simp at hrl; omega) xs [] [x] (by simp at hrl ⊢; omega)
              let ρ0 : Rho := ("letter", .str (sgn x)) :: ρ4
              have t1 : EB c ρ0 (match nthS (forBody (nthS bodyW 4)) 0 with | .If t _ _ _ => t | _ => .Constant .none 0 ⟨0, 0, 0, 0⟩) (decide (x ≤ s) == decide (x ≤ s)) :=
                eb_cmp (leE (ev_var rfl hk rfl) (ev_var rfl hk rfl) rfl) (leE (ev_item (ev_var (p := S (x :: xs)) rfl hk rfl) (ev_int (i := 0)) (item_list (k := 0) (i := .str (sgn x)) rfl (by simp only [List.length_map, List.length_cons]; simp at hrl; omega)) (by first | exact (fun _ _ _ _ => rfl) | exact letgo_str)) (ev_var rfl hk rfl) rfl) cmp_eq_bool rfl
              have t1 := eb_to t1 (b := true) (by simp)
              exact .next (own_ne' (by decide)) (exs_cons (ex_if_true t1 (exs_cons (ex_nest_push hk rfl rfl (by decide) rfl rfl rfl rfl rfl) exs_nil)) (exs_cons (ex_weakR (by repeat' (first | exact SubR.nil | refine SubR.cons rfl ?_)) (ex_nest_last (ls := []) (l := []) hk (ev_var rfl hk rfl) ev_neg1 rfl rfl (by decide) (by decide) rfl rfl rfl rfl (fun _ _ => rfl) rfl rfl)) exs_nil)) hx
          have hsum : ((piecesN s r).map (·.length)).sum = r.length := by
            have := backRow_len s r
            unfold backRow at this
            rw [flatMap_len rot1_len] at this
            exact this
          have hps : ∀ p ∈ piecesN s r, p.length ≤ 1000 := fun p hp => by
            have : p.length ≤ ((piecesN s r).map (·.length)).sum := le_sum (List.mem_map.mpr ⟨p, hp, rfl⟩)
            omega
          have s5 := comp (piecesN s r) (("pieces", .lists (Ls (piecesN s r))) :: ρ4) rfl (by omega) hps
          refine ⟨row', .turn (ow₁ := .none) (ρ₁ := R (backRow s r) (s :: word)) t0 (exs_cons s0 (exs_cons s1 (exs_cons s2 (exs_cons s3 (exs_cons s4 (exs_freezeNest (exs_cons s5 (exs_weakR (by repeat' (first | exact SubR.nil | refine SubR.cons rfl ?_)) exs_nil)))))))) h⟩
    obtain ⟨row', h⟩ := loop l.length l [] (Nat.le_refl _) hl (by simpa using hl) hb
    exact ⟨_, _, exs_cons (ex_assign (p := .str (wordS [])) (ev_to ev_str (by rfl)) hk (.inl rfl) (by simp [Own.name]) rfl) (exs_cons (ex_while h) (cons_ret (ex_ret (ev_var rfl hk rfl))))⟩
end
end Mine
end
section
open PySem PySem.W PySem.Calls PyProof.Rows PySem.Builtin PySem.Builtin.Re
set_option maxRecDepth 100000
namespace Mine
namespace HF2
theorem plainAttrs_pat : PlainAttrs "re.Pattern" :=
  ⟨⟨"object.__getattribute__", by rw [typeLookup_type, builtinLookup_eq_fast]; kernel_rfl, by decide +kernel⟩, by rw [typeLookup_type, builtinLookup_eq_fast]; kernel_rfl⟩
theorem args_sub (a b c : Value) : argsOk "re.Pattern.sub" ⟨[a, b, c], []⟩ := by
  unfold argsOk; kernel_rfl
theorem str_call : typeLookup (.type "str") "__call__" = pure none := by rw [typeLookup_type, builtinLookup_eq_fast]; kernel_rfl
end HF2
section
variable {c : Cx}
theorem meth_sub {hit : Nat → Option Nat} {code : Array Nat} {a : Addr} {x r : Str} {l : List Str} (hm : (a, code) ∈ c.I.pats)
    (hs : ∀ d must, d ≤ x.cps.size → Found hit x.cps.size d (Sre.forSearch code x.cps 0 d x.cps.size must)) (hf : ∀ p e, hit p = some e → p < e ∧ e ≤ x.cps.size) (hx : x.cps.size ≤ 10000) (hr : r.length ≤ 10)
    (hb : r.cps.contains 92 = false) (hp : Pieces hit x r 0 l) : MethOK c "sub" (.val (.ref a)) [.str r, .str x] (.str (Txt.join "" l)) := by
  refine ⟨"re.Pattern", _, HF2.plainAttrs_pat, HF2.slot_sub, HF2.type_sub, fun F s va P ra => ?_⟩
  obtain rfl := rv_val ra
  have K := P.gb.pats _ hm
  have K' := K
  obtain ⟨o, fs, b, o2, vs, n, h1, h2, h3, h4, h5, h6, h7, h8, h9⟩ := K
  have hT : s.TypeIs (.ref a) "re.Pattern" := ⟨o, h1, h2⟩
  refine ⟨hT, fun b e => by cases e; exact ⟨o, h1, h3⟩, fun vs rs Q E hQ => ?_⟩
  obtain ⟨v, v', rfl, r1, r2⟩ := two_args rs
  obtain ⟨u, rfl⟩ := rv_str r1
  obtain ⟨t, rfl⟩ := rv_str r2
  refine wpAny_call (codeAny_call_builtin HF2.slot_sub.plain HF2.entry_sub (HF2.slot_sub.check _ _ _ _ _ _ _ _ hT (HF2.args_sub _ _ _) ?_))
  unfold Builtin.«re.Pattern.sub» reSubstitute
  refine wpAny_bind (m := reNamed _ _ _ _ _ _) (wpAny_pure ?_)
  try dsimp only
  refine wpAny_bind (wpAny_pure ?_)
  refine wpAny_bind (wpAny_specialOf (typeIs_str _ _ _) HF2.str_call ?_)
  try dsimp only
  rw [if_neg (by decide)]
  refine wpAny_bind (m := asStr? (.str r u)) (wpAny_pure ?_)
  try dsimp only
  refine wpAny_bind (wpAny_pure ?_)
  rw [hb]
  rw [if_neg (by decide), if_pos (by decide)]
  refine wpAny_bind (wpAny_pure ?_)
  try dsimp only
  refine wpAny_bind (wpAny_holding (target_any K' ?_))
  rw [if_neg (by decide)]
  refine wpAny_bind (wpAny_newList ?_)
  refine wpAny_pure ⟨plainId_quiet HF2.plain_sub_loop _, ?_⟩
  have hn : s.heap.get? s.heap.objs.size = none := get_size _
  have kp : ∀ h' : Heap, (∀ b o, b ≠ s.heap.objs.size → (s.heap.push (listOf #[] 0)).get? b = some o → h'.get? b = some o) → Kp s.heap h' := fun h' k b o e =>
    k b o (fun q => by rw [q, hn] at e; cases e) (Heap.get?_push_of_some _ e)
  refine sub_loop (hit := hit) (code := code) (L := s.heap.objs.size) hs hf hx hr hp 0 false [] 0 _ _ (Nat.zero_le _) (fun h' k => K'.keep (kp h' k)) (Heap.get?_push_size _ rfl) (Nat.le_refl _) (Nat.le_refl _) fun h' tk v k1 k2 => ?_
  exact hQ _ F h' tk (Up.kept P.sub (kp h' k1) P.hi k2) (.imm (.str _ _))
end
end Mine
end
section
open PySem PySem.W PySem.Calls PyProof.Rows PySem.Spec
set_option maxRecDepth 100000
namespace Mine
noncomputable def crlfS : Str := ⟨#[13, 10]⟩
noncomputable def ddS : Str := ⟨#[46, 46]⟩
noncomputable def hitsA (x : Str) : Nat → Option Nat := hitE1 x.cps x.cps.size
noncomputable def hitsB (x : Str) : Nat → Option Nat := hitE2 x.cps x.cps.size
noncomputable def Quoted (x z : Str) : Prop := ∃ l2 l1, Pieces (hitsB x) x crlfS 0 l2 ∧ Pieces (hitsA (Txt.join "" l2)) (Txt.join "" l2) ddS 0 l1 ∧ z = Txt.join "" l1 ∧ (Txt.join "" l2).cps.size ≤ 10000
theorem hitsA_ok (x : Str) : ∀ p e, hitsA x p = some e → p < e ∧ e ≤ x.cps.size := by
  intro p e h
  unfold hitsA hitE1 hit1 at h
  split at h
  · rename_i h'
    cases h
    have : p < x.cps.size := by
      rw [Bool.and_eq_true, Bool.and_eq_true] at h'
      exact of_decide_eq_true h'.2.1
    omega
  · cases h
theorem end2_in {text : Array Nat} {lim s : Nat} (h : s < lim) : s < end2 text lim s ∧ end2 text lim s ≤ lim := by
  unfold end2
  by_cases h2 : (text.getD s 0 == 13 && (decide (s + 1 < lim) && text.getD (s + 1) 0 == 10)) = true
  · rw [if_pos h2]
    rw [Bool.and_eq_true, Bool.and_eq_true] at h2
    have := of_decide_eq_true h2.2.1
    omega
  · rw [if_neg h2]; omega
theorem hitsB_ok (x : Str) : ∀ p e, hitsB x p = some e → p < e ∧ e ≤ x.cps.size := by
  intro p e h
  unfold hitsB hitE2 at h
  split at h
  · rename_i h'
    cases h
    have : p < x.cps.size := by
      rw [Bool.and_eq_true] at h'
      exact of_decide_eq_true h'.1
    exact end2_in this
  · cases h
section
variable {prog : Program} {w : World}
theorem fn_quote {x z : Str} (hx : x.cps.size ≤ 10000) (hz : Quoted x z) : FN prog w topI dQuote 1 [.str x] (.str z) := by
  obtain ⟨l2, l1, h2, h1, rfl, hy⟩ := hz
  exact fn_intro (by simp [topI]) okQuote rfl fun A L cdv lo hk => ⟨_, _, cons_ret (ex_ret
    (ev_meth (ev_glob (u := .ref 36) hk rfl (by (repeat (first | exact List.Mem.head _ | refine List.Mem.tail _ ?_))) rfl) (evs_cons (ev_to ev_str (show PV.str (Str.ofString "..") = .str ddS by rfl)) (evs_cons
      (ev_meth (ev_glob (u := .ref 41) hk rfl (by (repeat (first | exact List.Mem.head _ | refine List.Mem.tail _ ?_))) rfl) (evs_cons (ev_globS (y := crlfS) hk rfl (by (repeat (first | exact List.Mem.head _ | refine List.Mem.tail _ ?_))) rfl) (evs_cons (ev_var rfl hk rfl) evs_nil rfl) rfl)
        (meth_sub (code := code2) (hit := hitsB x) (by (repeat (first | exact List.Mem.head _ | refine List.Mem.tail _ ?_))) (fun d must hd => forSearch2 hd) (hitsB_ok x) hx (by decide) (by decide +kernel) h2) rfl (by decide) rfl rfl) evs_nil rfl) rfl)
      (meth_sub (code := code1) (hit := hitsA _) (by (repeat (first | exact List.Mem.head _ | refine List.Mem.tail _ ?_))) (fun d must hd => forSearch1 hd) (hitsA_ok _) hy (by decide) (by decide +kernel) h1) rfl (by decide) rfl rfl))⟩
end
end Mine
end
section
open PySem PySem.W PySem.Calls PyProof.Rows PySem.Spec
set_option maxRecDepth 100000
namespace Mine
noncomputable def shS (a b : Nat) : Str := if b < a then ⟨#[]⟩ else ⟨#[32]⟩
noncomputable def tailL : List Str := [⟨#[]⟩, ⟨#[32]⟩, ⟨#[133, 46]⟩, ⟨#[8232, 46]⟩]
noncomputable def endL : List Str := [⟨#[10]⟩, ⟨#[13]⟩, ⟨#[13, 10]⟩]
noncomputable def bodyS (row ds : List Nat) (k i : Nat) : Str := shS (row.getD i 0) (row.getD k 0) ++ dotsS (ds.getD i 0) ++ tailL.getD (i % 4) ⟨#[]⟩
noncomputable def bumped (row ds : List Nat) (k : Nat) : List Nat := (List.range k).map fun i => ds.getD i 0 + (if row.getD k 0 < row.getD i 0 then 1 else 0)
noncomputable def mailL (row ds : List Nat) (t k : Nat) : List Str := (List.range k).map fun i => bodyS row ds k i ++ endL.getD ((t + i + k) % 3) ⟨#[]⟩
noncomputable def mailS (row ds : List Nat) (t k : Nat) : Str := Txt.join "" (mailL row ds t k)
noncomputable def sentN (row : List Nat) : Nat → List Nat
  | 0 => []
  | k + 1 => bumped row (sentN row k) k ++ [1]
noncomputable def backL (row : List Nat) (k : Nat) : List Str := (List.range k).map (bodyS row (bumped row (sentN row k) k) k)
noncomputable def lastS : Str := ⟨#[13, 46]⟩
noncomputable def SentOK (row : List Nat) (t k : Nat) : Prop := ∃ z, Quoted (mailS row (sentN row k) t k ++ lastS) z ∧ Txt.split z crlfS = backL row k ++ [⟨#[]⟩, ddS] ∧ z.length ≤ 10000
theorem sentN_len (row : List Nat) : ∀ k, (sentN row k).length = k
  | 0 => rfl
  | k + 1 => by simp [sentN, bumped]
theorem sentN_le (row : List Nat) : ∀ k, ∀ d ∈ sentN row k, 1 ≤ d ∧ d ≤ k
  | 0 => by simp [sentN]
  | k + 1 => by
    intro d hd
    rcases List.mem_append.mp hd with h | h
    · obtain ⟨i, hi, rfl⟩ := List.mem_map.mp h
      have hi := List.mem_range.mp hi
      have hlt : i < (sentN row k).length := by rw [sentN_len]; exact hi
      have : (sentN row k).getD i 0 ∈ sentN row k := by
        rw [List.getD_eq_getElem?_getD, List.getElem?_eq_getElem hlt]; exact List.getElem_mem hlt
      have := sentN_le row k _ this
      split <;> omega
    · rw [List.mem_singleton.mp h]; omega
theorem sentN_at (row : List Nat) {k i : Nat} (h : i < k) : 1 ≤ (sentN row k).getD i 0 ∧ (sentN row k).getD i 0 ≤ k := by
  refine sentN_le row k _ ?_
  have hlt : i < (sentN row k).length := by rw [sentN_len]; exact h
  rw [List.getD_eq_getElem?_getD, List.getElem?_eq_getElem hlt]; exact List.getElem_mem hlt
theorem bumped_at (row ds : List Nat) {k i : Nat} (h : i < k) : (bumped row ds k).getD i 0 = ds.getD i 0 + (if row.getD k 0 < row.getD i 0 then 1 else 0) := by
  unfold bumped
  rw [List.getD_eq_getElem?_getD, List.getElem?_map, List.getElem?_range h]; rfl
theorem dotsS_len (n : Nat) : (dotsS n).length = n := by show (List.replicate n 46).toArray.size = n; simp
theorem shS_len (a b : Nat) : (shS a b).length ≤ 1 := by unfold shS; split <;> decide
theorem tail_len (i : Nat) : (tailL.getD (i % 4) ⟨#[]⟩).length ≤ 2 := by
  have : i % 4 < 4 := Nat.mod_lt _ (by decide)
  have : ∀ j, j < 4 → (tailL.getD j ⟨#[]⟩).length ≤ 2 := by decide
  exact this _ (by omega)
theorem end_len (i : Nat) : (endL.getD (i % 3) ⟨#[]⟩).length ≤ 2 := by
  have : ∀ j, j < 3 → (endL.getD j ⟨#[]⟩).length ≤ 2 := by decide
  exact this _ (Nat.mod_lt _ (by decide))
theorem str_len_add (x y : Str) : (x ++ y).length = x.length + y.length := by
  show (x ++ y).cps.size = _
  rw [Str.cps_append, Array.size_append]; rfl
theorem bodyS_len (row ds : List Nat) (k i : Nat) : (bodyS row ds k i).length ≤ ds.getD i 0 + 3 := by
  unfold bodyS
  rw [str_len_add, str_len_add, dotsS_len]
  have := shS_len (row.getD i 0) (row.getD k 0)
  have := tail_len i
  omega
noncomputable def risesI : Nat → List Int → Bool
  | _, [] => true
  | a, .ofNat j :: D => match Nat.ble j a with
    | true => false
    | false => risesI j D
  | _, _ => false
theorem risesI_nodup : ∀ (D : List Int) (a : Nat), risesI a D = true → D.Nodup ∧ ∀ k : Nat, k ≤ a → (k : Int) ∉ D
  | [], a, _ => ⟨List.nodup_nil, fun _ _ h => nomatch h⟩
  | .ofNat j :: D, a, h => by
    rw [risesI] at h
    cases hb : Nat.ble j a with
    | true => rw [hb] at h; cases h
    | false =>
      rw [hb] at h
      have hlt : a < j := by
        rcases Nat.lt_or_ge a j with q | q
        · exact q
        · rw [Nat.ble_eq_true_of_le q] at hb; cases hb
      obtain ⟨h1, h2⟩ := risesI_nodup D j h
      refine ⟨List.nodup_cons.mpr ⟨h2 j (Nat.le_refl _), h1⟩, fun k hk hm => ?_⟩
      rcases List.mem_cons.mp hm with e | hm
      · have : k = j := Int.ofNat.inj e
        omega
      · exact h2 k (by omega) hm
  | .negSucc j :: D, a, h => by cases h
noncomputable def lookQ (n : Nat) : List (Int × Str) → Option Str
  | [] => none
  | (.ofNat j, s) :: D => match Nat.beq n j with
    | true => some s
    | false => lookQ n D
  | (.negSucc _, _) :: D => lookQ n D
theorem lookQ_eq (n : Nat) : ∀ D : List (Int × Str), D.lookup (n : Int) = lookQ n D
  | [] => rfl
  | (.ofNat j, s) :: D => by
    rw [List.lookup_cons, lookQ, lookQ_eq n D]
    cases hb : Nat.beq n j with
    | true => rw [Nat.eq_of_beq_eq_true hb, show ((j : Int) == Int.ofNat j) = true from beq_self_eq_true _]
    | false => rw [show ((n : Int) == Int.ofNat j) = false from beq_eq_false_iff_ne.mpr fun e => Nat.ne_of_beq_eq_false hb (Int.ofNat.inj e)]
  | (.negSucc j, s) :: D => by
    rw [List.lookup_cons, lookQ, lookQ_eq n D, show ((n : Int) == Int.negSucc j) = false from beq_eq_false_iff_ne.mpr fun e => by cases e]
noncomputable def foldQ (n : Nat) : Str := match lookQ n b3T with
  | some s => s
  | none => Txt.lower ⟨#[n]⟩
theorem foldQ_eq (n : Nat) : foldB3 n = foldQ n := by
  unfold foldB3 foldQ
  rw [lookQ_eq]
  cases lookQ n b3T <;> rfl
theorem b3_rises : risesI 180 (b3T.map (·.1)) = true := by decide +kernel
theorem look_none : ∀ {n : Nat} {D : List (Int × Str)}, (n : Int) ∉ D.map (·.1) → lookQ n D = none
  | n, [], _ => rfl
  | n, (.ofNat j, s) :: D, h => by
    have h1 : n ≠ j := fun e => h (by rw [e]; exact List.mem_cons_self)
    have h2 : (n : Int) ∉ D.map (·.1) := fun q => h (List.mem_cons_of_mem _ q)
    have hb : Nat.beq n j = false := by
      cases q : Nat.beq n j with
      | false => rfl
      | true => exact absurd (Nat.eq_of_beq_eq_true q) h1
    rw [lookQ, hb, look_none h2]
  | n, (.negSucc j, s) :: D, h => by
    rw [lookQ, look_none fun q => h (List.mem_cons_of_mem _ q)]
theorem fold_low {n : Nat} (h : n ≤ 180) : foldB3 n = Txt.lower ⟨#[n]⟩ := by
  rw [foldQ_eq]
  unfold foldQ
  rw [look_none ((risesI_nodup _ _ b3_rises).2 n h)]
end Mine
end
section
open PySem PySem.W PySem.Calls PyProof.Rows PySem.Spec PySem.Builtin.Str PySem.StrLaws
set_option maxRecDepth 100000
namespace Mine
noncomputable def inter2 (a b : Nat) : List (List Nat) → List Nat
  | [] => []
  | [w] => w
  | w :: v :: r => w ++ a :: b :: inter2 a b (v :: r)
theorem at_iff {x : Str} {a b i : Nat} : At x ⟨#[a, b]⟩ x.length i ↔ x.cps.toList[i]? = some a ∧ x.cps.toList[i + 1]? = some b := by
  unfold At subAt
  have hl : x.cps.toList.length = x.length := by rw [Array.length_toList]; rfl
  have h2 : (⟨#[a, b]⟩ : Str).length = 2 := rfl
  rw [h2]
  constructor
  · rintro ⟨h, e⟩
    have e : x.cps.extract i (i + 2) = #[a, b] := by simpa using e
    have e' := congrArg Array.toList e
    rw [Array.toList_extract] at e'
    have e'' : (x.cps.toList.drop i).take 2 = [a, b] := by simpa [List.extract] using e'
    have h0 := congrArg (fun l => l[0]?) e''
    have h1 := congrArg (fun l => l[1]?) e''
    simp at h0 h1
    exact ⟨by simpa using h0, by simpa using h1⟩
  · rintro ⟨h0, h1⟩
    have hlt : i + 1 < x.cps.toList.length := by
      rcases Nat.lt_or_ge (i + 1) x.cps.toList.length with h | h
      · exact h
      · rw [List.getElem?_eq_none h] at h1; cases h1
    refine ⟨by omega, ?_⟩
    have : x.cps.extract i (i + 2) = #[a, b] := by
      apply Array.toList_inj.mp
      rw [Array.toList_extract]
      show (x.cps.toList.drop i).take (i + 2 - i) = [a, b]
      rw [show i + 2 - i = 2 by omega, List.drop_eq_getElem_cons (by omega), List.take_succ_cons, List.drop_eq_getElem_cons hlt, List.take_succ_cons, List.take_zero]
      rw [List.getElem?_eq_getElem (by omega)] at h0
      rw [List.getElem?_eq_getElem hlt] at h1
      rw [Option.some.inj h0, Option.some.inj h1]
    simp [this]
theorem parts_of {x : Str} {a b : Nat} : ∀ (ps : List (List Nat)) (p cuts f), ps ≠ [] → (∀ w ∈ ps, a ∉ w) → x.cps.toList.drop p = inter2 a b ps → p ≤ x.length → ChainG x ⟨#[a, b]⟩ x.length p cuts f → (∀ k, f ≤ k → ¬ At x ⟨#[a, b]⟩ x.length k) →
    partsFrom x 2 p cuts = ps.map fun w => ⟨w.toArray⟩
  | [], p, cuts, f, hne, _, _, _, _, _ => absurd rfl hne
  | [w], p, cuts, f, _, hw, hd, hp, hc, hf => by
    have hd : x.cps.toList.drop p = w := hd
    have hl : x.cps.toList.length = x.length := by rw [Array.length_toList]; rfl
    cases cuts with
    | nil =>
      show [strSub x p x.length] = [⟨w.toArray⟩]
      congr 1
      apply Str.ext'
      apply Array.toList_inj.mp
      rw [strSub_toList, hd, List.take_of_length_le (by rw [← hd, List.length_drop]; omega)]
    | cons c r =>
      exfalso
      have h0 := (at_iff.mp hc.2.1).1
      have hin : a ∈ w := by
        rw [← hd]
        have : (x.cps.toList.drop p)[c - p]? = some a := by rw [List.getElem?_drop, show p + (c - p) = c by have := hc.1; omega]; exact h0
        exact List.mem_of_getElem? this
      exact hw w List.mem_cons_self hin
  | w :: v :: r, p, cuts, f, _, hw, hd, hp, hc, hf => by
    have hd : x.cps.toList.drop p = w ++ a :: b :: inter2 a b (v :: r) := hd
    have hl : x.cps.toList.length = x.length := by rw [Array.length_toList]; rfl
    have hlen : w.length + 2 ≤ x.length - p := by
      have := congrArg List.length hd
      rw [List.length_drop, List.length_append, List.length_cons, List.length_cons] at this
      omega
    have g : ∀ k, x.cps.toList[p + k]? = (w ++ a :: b :: inter2 a b (v :: r))[k]? := fun k => by rw [← hd, List.getElem?_drop]
    have hat : At x ⟨#[a, b]⟩ x.length (p + w.length) := by
      refine at_iff.mpr ⟨?_, ?_⟩
      · rw [g, List.getElem?_append_right (Nat.le_refl _), Nat.sub_self]; rfl
      · rw [Nat.add_assoc, g, List.getElem?_append_right (by omega), show w.length + 1 - w.length = 1 by omega]; rfl
    have hno : ∀ k, p ≤ k → k < p + w.length → ¬ At x ⟨#[a, b]⟩ x.length k := fun k h1 h2 hA => by
      have h0 := (at_iff.mp hA).1
      rw [show k = p + (k - p) by omega, g, List.getElem?_append_left (by omega)] at h0
      exact hw w List.mem_cons_self (List.mem_of_getElem? h0)
    cases cuts with
    | nil =>
      have e : f = p := hc
      exact absurd hat (hf _ (by omega))
    | cons c cr =>
      obtain ⟨h1, h2, h3, h4⟩ := hc
      have hcp : c = p + w.length := by
        rcases Nat.lt_trichotomy c (p + w.length) with h | h | h
        · exact absurd h2 (hno c h1 h)
        · exact h
        · exact absurd hat (h3 _ (by omega) h)
      subst hcp
      show strSub x p (p + w.length) :: partsFrom x 2 (p + w.length + 2) cr = (⟨w.toArray⟩ : Str) :: (v :: r).map fun w => ⟨w.toArray⟩
      have hd' : x.cps.toList.drop (p + w.length + 2) = inter2 a b (v :: r) := by
        rw [show p + w.length + 2 = p + (w.length + 2) by omega, ← List.drop_drop, hd, ← List.drop_drop, List.drop_left]; rfl
      rw [parts_of (v :: r) (p + w.length + 2) cr f (by simp) (fun u hu => hw u (List.mem_cons_of_mem _ hu)) hd' (by omega) h4 hf]
      congr 1
      apply Str.ext'
      apply Array.toList_inj.mp
      rw [strSub_toList, hd, show p + w.length - p = w.length by omega, List.take_left]
theorem split2 {a b : Nat} (ha : a < 256) (hb : b < 256) {ps : List (List Nat)} (hne : ps ≠ []) (hw : ∀ w ∈ ps, a ∉ w) : Txt.split ⟨(inter2 a b ps).toArray⟩ ⟨#[a, b]⟩ = ps.map fun w => ⟨w.toArray⟩ := by
  have hk : Builtin.Str.strKind ⟨#[a, b]⟩ = 1 := by
    unfold Builtin.Str.strKind
    rw [if_pos (by simp [ha, hb])]
  have hk1 : ∀ x : Str, 1 ≤ Builtin.Str.strKind x := fun x => by unfold Builtin.Str.strKind; split <;> (try split) <;> omega
  unfold Txt.split
  have hdr : ∀ x : Str, x.cps.toList.drop 0 = x.cps.toList := fun x => List.drop_zero
  rw [hk]
  by_cases hs : (⟨(inter2 a b ps).toArray⟩ : Str).length < (⟨#[a, b]⟩ : Str).length
  · rw [if_pos (by rw [decide_eq_true hs]; rfl)]
    match ps, hne with
    | [w], _ => rfl
    | w :: v :: r, _ =>
      exfalso
      have : (inter2 a b (w :: v :: r)).toArray.size < 2 := hs
      rw [List.size_toArray] at this
      have e : inter2 a b (w :: v :: r) = w ++ a :: b :: inter2 a b (v :: r) := rfl
      rw [e, List.length_append, List.length_cons, List.length_cons] at this
      omega
  · rw [if_neg (by rw [decide_eq_false hs, decide_eq_false (by have := hk1 ⟨(inter2 a b ps).toArray⟩; omega)]; simp)]
    obtain ⟨f, hG, hn⟩ := occ_tight ⟨(inter2 a b ps).toArray⟩ ⟨#[a, b]⟩ (show 1 ≤ 2 by decide)
    have main := parts_of ps 0 _ f hne hw (by rw [List.drop_zero]) (Nat.zero_le _) hG hn
    split
    · rename_i he
      have he := List.isEmpty_iff.mp he
      rw [he] at main
      rw [← main]
      show _ = [strSub _ 0 _]
      rw [sub_whole]
    · rw [partsBetween_eq]
      exact main
end Mine
end
section
open PySem PySem.W PySem.Calls PyProof.Rows PySem.Spec PySem.StrLaws
set_option maxRecDepth 100000
namespace Mine
noncomputable def catL (l : List Str) : List Nat := (l.map fun s => s.cps.toList).flatten
theorem join_cat : ∀ l : List Str, (Txt.join "" l).cps.toList = catL l := by
  intro l
  show (Builtin.Str.glued "" l).cps.toList = _
  rw [glued_eq_join]
  induction l with
  | nil => rfl
  | cons x r ih =>
    cases r with
    | nil => simp [Str.join, catL]
    | cons y r =>
      show (x ++ "" ++ Str.join "" (y :: r)).cps.toList = _
      rw [Str.cps_append, Str.cps_append, Array.toList_append, Array.toList_append, ih]
      have e : ("" : Str).cps.toList = [] := rfl
      rw [e]
      simp [catL]
noncomputable def q2 : Bool → List Nat → List Nat
  | _, [] => []
  | sw, a :: r => if a = 10 then (if sw = true then q2 false r else 13 :: 10 :: q2 false r) else if a = 13 then 13 :: 10 :: q2 true r else a :: q2 false r
noncomputable def q1 : Bool → List Nat → List Nat
  | _, [] => []
  | st, a :: r => if st = true ∧ a = 46 then 46 :: 46 :: q1 false r else a :: q1 (a == 10) r
theorem q2_plain : ∀ (w rest : List Nat), (∀ a ∈ w, a ≠ 10 ∧ a ≠ 13) → q2 false (w ++ rest) = w ++ q2 false rest
  | [], rest, _ => rfl
  | a :: w, rest, h => by
    have ha := h a List.mem_cons_self
    show q2 false (a :: (w ++ rest)) = a :: (w ++ q2 false rest)
    rw [q2, if_neg ha.1, if_neg ha.2, q2_plain w rest fun b hb => h b (List.mem_cons_of_mem _ hb)]
theorem q2_sw {l : List Nat} (h : l.head? ≠ some 10) : q2 true l = q2 false l := by
  cases l with
  | nil => rfl
  | cons a r =>
    have : a ≠ 10 := fun e => h (by rw [e]; rfl)
    rw [q2, q2, if_neg this, if_neg this]
theorem q1_plain : ∀ (w rest : List Nat) (st : Bool), (∀ (k : Nat) (a : Nat), w[k]? = some a → ¬ ((if k = 0 then st else w[k - 1]? == some 10) = true ∧ a = 46)) → q1 st (w ++ rest) = w ++ q1 (match w.getLast? with | some a => a == 10 | none => st) rest
  | [], rest, st, _ => rfl
  | a :: w, rest, st, h => by
    have ha := h 0 a rfl
    rw [if_pos rfl] at ha
    show q1 st (a :: (w ++ rest)) = a :: (w ++ _)
    rw [q1, if_neg ha, q1_plain w rest (a == 10) fun k b hb => ?_]
    · congr 2
      cases w with
      | nil => rfl
      | cons b w => rw [List.getLast?_cons_cons]; rw [List.getLast?_eq_some_getLast (by simp)]
    · have := h (k + 1) b (by simpa using hb)
      rw [if_neg (by omega)] at this
      intro ⟨h1, h2⟩
      refine this ⟨?_, h2⟩
      by_cases hk : k = 0
      · subst hk
        rw [if_pos rfl] at h1
        show ((a :: w)[0]? == some 10) = true
        have : a = 10 := by simpa using h1
        subst this; rfl
      · rw [if_neg hk] at h1
        show ((a :: w)[k]? == some 10) = true
        rw [show k = (k - 1) + 1 by omega, List.getElem?_cons_succ]; exact h1
theorem seg_eq (L : List Nat) {d p : Nat} (h : d ≤ p) : L.drop d = (L.drop d).take (p - d) ++ L.drop p := by
  have : L.drop p = (L.drop d).drop (p - d) := by rw [List.drop_drop]; congr 1; omega
  rw [this, List.take_append_drop]
theorem cat_seg (x : Str) (d p : Nat) : catL (if d < p then [(⟨x.cps.extract d p⟩ : Str)] else []) = (x.cps.toList.drop d).take (p - d) := by
  split
  · show [(x.cps.extract d p).toList].flatten = _
    rw [Array.toList_extract]
    simp [List.extract]
  · rw [show p - d = 0 by omega, List.take_zero]; rfl
theorem cat_append (l m : List Str) : catL (l ++ m) = catL l ++ catL m := by unfold catL; rw [List.map_append, List.flatten_append]
theorem getD_list (x : Str) (p : Nat) : x.cps.getD p 0 = (x.cps.toList[p]?).getD 0 := by
  rw [Array.getD_eq_getD_getElem?, Array.getElem?_toList]
theorem seg_get (L : List Nat) (d n k : Nat) (hk : k < n) : ((L.drop d).take n)[k]? = L[d + k]? := by
  rw [List.getElem?_take_of_lt hk, List.getElem?_drop]
theorem noB {x : Str} {p : Nat} (h : hitsB x p = none) {a : Nat} (ha : x.cps.toList[p]? = some a) : a ≠ 10 ∧ a ≠ 13 := by
  have hl : x.cps.toList.length = x.cps.size := Array.length_toList
  have hlt : p < x.cps.size := by
    rcases Nat.lt_or_ge p x.cps.size with h | h
    · exact h
    · rw [List.getElem?_eq_none (by omega)] at ha; cases ha
  unfold hitsB hitE2 at h
  by_cases q : (decide (p < x.cps.size) && isEnd (x.cps.getD p 0)) = true
  · rw [if_pos q] at h; cases h
  · rw [decide_eq_true hlt, getD_list, ha] at q
    constructor <;> (rintro rfl; exact q (by decide))
theorem segB {x : Str} {d p : Nat} (h : ∀ q, d ≤ q → q < p → hitsB x q = none) : ∀ a ∈ (x.cps.toList.drop d).take (p - d), a ≠ 10 ∧ a ≠ 13 := by
  intro a ha
  obtain ⟨k, hk⟩ := List.getElem?_of_mem ha
  have hlt : k < p - d := by
    rcases Nat.lt_or_ge k (p - d) with h | h
    · exact h
    · rw [List.getElem?_eq_none (by rw [List.length_take]; omega)] at hk; cases hk
  rw [seg_get _ _ _ _ hlt] at hk
  exact noB (h (d + k) (by omega) (by omega)) hk
theorem pieces2 {x : Str} : ∀ {d : Nat} {l : List Str}, Pieces (hitsB x) x crlfS d l → catL l = q2 false (x.cps.toList.drop d) := by
  intro d l h
  have hl : x.cps.toList.length = x.cps.size := Array.length_toList
  induction h with
  | @last d hd hn =>
    rw [cat_seg]
    have e := seg_eq x.cps.toList hd
    have h0 : x.cps.toList.drop x.cps.size = [] := List.drop_of_length_le (by omega)
    rw [h0, List.append_nil] at e
    rw [← e]
    have := q2_plain (x.cps.toList.drop d) [] (by rw [e]; exact segB fun q h1 _ => hn q h1)
    rw [List.append_nil] at this
    rw [this]; simp [q2]
  | @more d p e l h1 h2 h3 h4 _ ih =>
    rw [cat_append, cat_seg, seg_eq x.cps.toList h1, q2_plain _ _ (segB h4)]
    congr 1
    · rw [← seg_eq x.cps.toList h1]
    show catL (crlfS :: l) = _
    have hc : catL (crlfS :: l) = 13 :: 10 :: catL l := rfl
    rw [hc, ih]
    have hp : x.cps.toList[p]? = some (x.cps.toList[p]'(by omega)) := List.getElem?_eq_getElem (by omega)
    unfold hitsB hitE2 at h3
    by_cases q : (decide (p < x.cps.size) && isEnd (x.cps.getD p 0)) = true
    · rw [if_pos q] at h3
      rw [Bool.and_eq_true, getD_list, hp] at q
      have hen := q.2
      injection h3 with h3
      rw [List.drop_eq_getElem_cons (by omega : p < x.cps.toList.length)]
      generalize hv : x.cps.toList[p]'(by omega) = v at hen hp
      have hv2 : v = 10 ∨ v = 13 := by simpa [isEnd] using hen
      unfold end2 at h3
      rcases hv2 with rfl | rfl
      · rw [if_neg (by rw [getD_list, hp]; simp)] at h3
        subst h3
        rw [q2, if_pos rfl, if_neg (by simp)]
      · rw [q2, if_neg (by decide), if_pos rfl]
        congr 2
        by_cases hc : (x.cps.getD p 0 == 13 && (decide (p + 1 < x.cps.size) && x.cps.getD (p + 1) 0 == 10)) = true
        · rw [if_pos hc] at h3
          subst h3
          simp only [Bool.and_eq_true] at hc
          have hlt := of_decide_eq_true hc.2.1
          have h10 := hc.2.2
          rw [getD_list, List.getElem?_eq_getElem (by omega)] at h10
          have h10 : x.cps.toList[p + 1]'(by omega) = 10 := by simpa using h10
          rw [List.drop_eq_getElem_cons (by omega : p + 1 < x.cps.toList.length), h10, q2, if_pos rfl, if_pos rfl]
        · rw [if_neg hc] at h3
          subst h3
          refine (q2_sw fun hh => hc ?_).symm
          have hlt : p + 1 < x.cps.toList.length := by
            rcases Nat.lt_or_ge (p + 1) x.cps.toList.length with h | h
            · exact h
            · rw [List.drop_of_length_le h] at hh; cases hh
          rw [List.drop_eq_getElem_cons hlt] at hh
          have h10 : x.cps.toList[p + 1] = 10 := by simpa using hh
          rw [getD_list, hp, getD_list, List.getElem?_eq_getElem hlt, h10, decide_eq_true (by omega)]
          rfl
    · rw [if_neg q] at h3; cases h3
noncomputable def stAt' (x : Str) (d : Nat) : Bool := d == 0 || x.cps.toList[d - 1]? == some 10
theorem hitA_iff {x : Str} {p : Nat} (h : p < x.cps.size) : hit1 x.cps x.cps.size p = (stAt' x p && (x.cps.toList[p]? == some 46)) := by
  have hl : x.cps.toList.length = x.cps.size := Array.length_toList
  unfold hit1 stAt'
  rw [decide_eq_true h, getD_list, getD_list, List.getElem?_eq_getElem (by omega : p < x.cps.toList.length)]
  have h2 : ((x.cps.toList[p - 1]?).getD 0 == 10) = (x.cps.toList[p - 1]? == some 10) := by
    rw [List.getElem?_eq_getElem (by omega : p - 1 < x.cps.toList.length)]
    simp
  rw [h2]
  simp
theorem noA {x : Str} {p : Nat} (h : hitsA x p = none) (hlt : p < x.cps.size) : ¬ (stAt' x p = true ∧ x.cps.toList[p]? = some 46) := by
  unfold hitsA hitE1 at h
  rintro ⟨h1, h2⟩
  rw [hitA_iff hlt, h1, h2] at h
  simp at h
theorem segA {x : Str} {d p : Nat} (hd : d ≤ p) (hp : p ≤ x.cps.size) (h : ∀ q, d ≤ q → q < p → hitsA x q = none) (rest : List Nat) : q1 (stAt' x d) ((x.cps.toList.drop d).take (p - d) ++ rest) = (x.cps.toList.drop d).take (p - d) ++ q1 (stAt' x p) rest := by
  have hl : x.cps.toList.length = x.cps.size := Array.length_toList
  have hwl : ((x.cps.toList.drop d).take (p - d)).length = p - d := by rw [List.length_take, List.length_drop]; omega
  rw [q1_plain]
  · congr 2
    rw [List.getLast?_eq_getElem?, hwl]
    by_cases hpd : p - d = 0
    · rw [hpd, List.take_zero]
      have : p = d := by omega
      subst this; rfl
    · rw [seg_get _ _ _ _ (by omega), show d + (p - d - 1) = p - 1 by omega]
      have hv : x.cps.toList[p - 1]? = some (x.cps.toList[p - 1]'(by omega)) := List.getElem?_eq_getElem (by omega)
      have e2 : stAt' x p = (x.cps.toList[p - 1]? == some 10) := by
        unfold stAt'
        rw [show (p == 0) = false from beq_eq_false_iff_ne.mpr (by omega), Bool.false_or]
      rw [e2, hv]
      rfl
  · intro k a hk ⟨h1, h2⟩
    have hkl : k < p - d := by
      rcases Nat.lt_or_ge k (p - d) with h | h
      · exact h
      · rw [List.getElem?_eq_none (by omega)] at hk; cases hk
    rw [seg_get _ _ _ _ hkl] at hk
    subst h2
    refine noA (h (d + k) (by omega) (by omega)) (by omega) ⟨?_, hk⟩
    by_cases k0 : k = 0
    · subst k0
      rw [if_pos rfl] at h1; exact h1
    · rw [if_neg k0, seg_get _ _ _ _ (by omega)] at h1
      unfold stAt'
      rw [show d + k - 1 = d + (k - 1) by omega, h1, Bool.or_true]
theorem pieces1 {x : Str} : ∀ {d : Nat} {l : List Str}, Pieces (hitsA x) x ddS d l → catL l = q1 (stAt' x d) (x.cps.toList.drop d) := by
  intro d l h
  have hl : x.cps.toList.length = x.cps.size := Array.length_toList
  induction h with
  | @last d hd hn =>
    rw [cat_seg]
    have e := seg_eq x.cps.toList hd
    have h0 : x.cps.toList.drop x.cps.size = [] := List.drop_of_length_le (by omega)
    have := segA (x := x) hd (Nat.le_refl _) (fun q h1 _ => hn q h1) []
    rw [List.append_nil] at this
    rw [h0, List.append_nil] at e
    rw [← e] at this
    rw [← e, this]; simp [q1]
  | @more d p e l h1 h2 h3 h4 _ ih =>
    rw [cat_append, cat_seg]
    have e1 := seg_eq x.cps.toList h1
    have := segA (x := x) h1 (by omega) h4 (x.cps.toList.drop p)
    rw [← e1] at this
    rw [this]
    congr 1
    have hc : catL (ddS :: l) = 46 :: 46 :: catL l := rfl
    rw [hc, ih]
    unfold hitsA hitE1 at h3
    by_cases q : hit1 x.cps x.cps.size p = true
    · rw [if_pos q] at h3
      injection h3 with h3
      subst h3
      rw [hitA_iff h2, Bool.and_eq_true] at q
      have h46 : x.cps.toList[p]'(by omega) = 46 := by
        have := q.2
        rw [List.getElem?_eq_getElem (by omega)] at this
        simpa using this
      rw [List.drop_eq_getElem_cons (by omega : p < x.cps.toList.length), h46, q1, if_pos ⟨q.1, rfl⟩]
      congr 3
      unfold stAt'
      rw [show p + 1 - 1 = p by omega, List.getElem?_eq_getElem (by omega), h46]
      rfl
    · rw [if_neg q] at h3; cases h3
theorem hitsB_big {x : Str} {q : Nat} (h : x.cps.size ≤ q) : hitsB x q = none := by
  unfold hitsB hitE2
  rw [decide_eq_false (by omega)]; rfl
theorem hitsA_big {x : Str} {q : Nat} (h : x.cps.size ≤ q) : hitsA x q = none := by
  unfold hitsA hitE1 hit1
  rw [decide_eq_false (by omega)]; simp
theorem quoted_of {x : Str} (hx : (q2 false x.cps.toList).length ≤ 10000) : ∃ z, Quoted x z ∧ z.cps.toList = q1 true (q2 false x.cps.toList) := by
  obtain ⟨l2, h2⟩ := pieces_of (x := x) (r := crlfS) (hitsB_ok x) _ 0 rfl (Nat.zero_le _) (fun q hq => hitsB_big hq)
  obtain ⟨l1, h1⟩ := pieces_of (x := Txt.join "" l2) (r := ddS) (hitsA_ok _) _ 0 rfl (Nat.zero_le _) (fun q hq => hitsA_big hq)
  have e2 : (Txt.join "" l2).cps.toList = q2 false x.cps.toList := by rw [join_cat, pieces2 h2, List.drop_zero]
  refine ⟨_, ⟨l2, l1, h2, h1, rfl, ?_⟩, ?_⟩
  · rw [← Array.length_toList, e2]; exact hx
  · rw [join_cat, pieces1 h1, List.drop_zero, e2]; rfl
end Mine
end
section
open PySem PySem.W PySem.Calls PyProof.Rows PySem.Spec
set_option maxRecDepth 100000
namespace Mine
theorem ev_at {c : Cx} {ρ : Rho} {v i : Expr} {pos : Pos} {l : List Str} {k : Nat} (hv : EV c ρ v (.strs l)) (hi : EV c ρ i (.int (k : Int))) (hk : k < l.length) (hl : l.length ≤ 100000)
    (ht : ∀ F va r, RV F va (.strs l) → letTemporaryGo v va r = pure ()) : EV c ρ (.Subscript v i pos) (.str (l.getD k ⟨#[]⟩)) := by
  refine ev_item hv hi (item_list (i := .str (l.getD k ⟨#[]⟩)) ?_ (by rw [List.length_map]; omega)) ht
  rw [List.getElem?_map, List.getElem?_eq_getElem hk, List.getD_eq_getElem?_getD, List.getElem?_eq_getElem hk]; rfl
theorem getD_mapS {α : Type} (f : α → Str) {l : List α} {k : Nat} {d : α} (hk : k < l.length) : (l.map f).getD k ⟨#[]⟩ = f (l.getD k d) := by
  rw [List.getD_eq_getElem?_getD, List.getElem?_map, List.getElem?_eq_getElem hk, List.getD_eq_getElem?_getD, List.getElem?_eq_getElem hk]; rfl
theorem getD_rangeS (f : Nat → Str) {n k : Nat} (hk : k < n) : ((List.range n).map f).getD k ⟨#[]⟩ = f k := by
  rw [List.getD_eq_getElem?_getD, List.getElem?_map, List.getElem?_range hk]; rfl
theorem ev_lenS {prog : Program} {w : World} {A : Around} {env : Env} {k lo : Nat} {ρ : Rho} {x : Str} {e : Expr} {p1 p2 : Pos} (he : EV ⟨prog, w, A, env, k, topI, lo⟩ ρ e (.str x)) (hk : EnvOK env) (hkk : env.kindOf "len" = some .globalImplicit) (hx : x.length ≤ 100000)
    (hs : (starEach [e] env).all (fun x => !x.1) = true) (hs2 : starEach [e] env = (false, eval e env) :: starEach [] env)
    (hs3 : eval (.Call (.Name "len" p1) [e] [] p2) env = (do callWith p2 (← eval (.Name "len" p1) env) [] (backTo p2 (starEach [e] env)) [])) :
    EV ⟨prog, w, A, env, k, topI, lo⟩ ρ (.Call (.Name "len" p1) [e] [] p2) (.int x.length) :=
  ev_call (ev_blt (u := .builtin "len") hk hkk (by (repeat (first | exact List.Mem.head _ | refine List.Mem.tail _ ?_))) (by (repeat (first | exact List.Mem.head _ | refine List.Mem.tail _ ?_))) rfl) (evs_cons he evs_nil hs2) (call_len_str (by omega)) (.inl ⟨_, rfl⟩) hs hs3
theorem slice_ss (x : Str) (s e : Nat) (h1 : s ≤ e) (h2 : e ≤ x.length) : (Txt.slice x (some (s : Int)) (some (e : Int))).cps.toList = (x.cps.toList.drop s).take (e - s) := by
  have hl : x.cps.toList.length = x.length := by rw [Array.length_toList]; rfl
  have e1 : Builtin.Str.strSliceIndices (some (s : Int)) (some (e : Int)) 1 x.length = sliceRange (s : Int) (e : Int) 1 := by
    unfold Builtin.Str.strSliceIndices
    simp only [show (1 : Int) > 0 by decide, if_true]
    congr 1 <;> (rw [if_neg (by omega)]; omega)
  have e2 := pick_le x.cps.toList s e (by rw [hl]; exact h2)
  unfold Txt.slice
  rw [e1]
  split
  · rename_i h
    have h : (sliceRange (s : Int) (e : Int) 1).length = x.length := by simpa using h
    unfold sliceRange at h
    rw [if_pos (by decide)] at h
    dsimp only at h
    rw [List.length_map, List.length_range] at h
    have : (if (s : Int) < (e : Int) then ((e : Int) - s + 1 - 1) / 1 else 0).toNat = e - s := by
      split <;> simp <;> omega
    rw [this] at h
    rw [List.take_of_length_le (by rw [List.length_drop, hl]; omega)]
    have : s = 0 := by omega
    rw [this, List.drop_zero]
  · rw [← e2]
    show (List.filterMap _ _).toArray.toList = _
    simp
theorem slice_mid (a b d : Str) : Txt.slice (a ++ b ++ d) (some (a.length : Int)) (some (((a ++ b ++ d).length : Int) - (d.length : Int))) = b := by
  have e : (((a ++ b ++ d).length : Int) - (d.length : Int)) = ((a.length + b.length : Nat) : Int) := by
    rw [str_len_add, str_len_add]; omega
  rw [e]
  apply Str.ext'
  apply Array.toList_inj.mp
  rw [slice_ss _ _ _ (by omega) (by rw [str_len_add, str_len_add]; omega), Str.cps_append, Str.cps_append, Array.toList_append, Array.toList_append]
  have ha : a.cps.toList.length = a.length := by rw [Array.length_toList]; rfl
  have hb : b.cps.toList.length = b.length := by rw [Array.length_toList]; rfl
  rw [List.append_assoc, List.drop_append_of_le_length (by omega), List.drop_of_length_le (by omega), List.nil_append, List.take_append_of_le_length (by omega), List.take_of_length_le (by omega)]
noncomputable def shL (row : List Nat) (k : Nat) : List Str := (List.range k).map fun i => shS (row.getD i 0) (row.getD k 0)
noncomputable def eltOf : Expr → Expr
  | .ListComp e _ _ _ => e
  | e => e
noncomputable def testOf : Stmt → Expr
  | .If t _ _ _ => t
  | _ => .Constant .none 0 ⟨0, 0, 0, 0⟩
theorem range0 {c : Cx} {n : Nat} (h : n ≤ 1000) : IterOK c (.rng 0 (n : Int)) ((List.range n).map fun i => PV.int ((i : Nat) : Int)) := by
  have := range_items (c := c) (a := 0) (n := n) (by omega)
  simpa using this
theorem sum_le {α : Type} {f : α → Nat} {b : Nat} : ∀ {l : List α}, (∀ x ∈ l, f x ≤ b) → (l.map f).sum ≤ l.length * b
  | [], _ => by simp
  | x :: l, h => by
    have h1 := h x List.mem_cons_self
    have h2 := sum_le (l := l) fun y hy => h y (List.mem_cons_of_mem _ hy)
    rw [List.map_cons, List.sum_cons, List.length_cons, Nat.succ_mul]; omega
theorem mailL_sum {row ds : List Nat} {t k : Nat} (hk : k ≤ 12) (hd : ∀ i < k, ds.getD i 0 ≤ 12) : ((mailL row ds t k).map (·.length)).sum ≤ k * 20 := by
  have := sum_le (f := fun x : Str => x.length) (b := 20) (l := mailL row ds t k) fun x hx => by
    obtain ⟨i, hi, rfl⟩ := List.mem_map.mp hx
    have hi := List.mem_range.mp hi
    rw [str_len_add]
    have h1 := bodyS_len row ds k i
    have h2 := end_len (t + i + k)
    have h3 := hd i hi
    omega
  rwa [show (mailL row ds t k).length = k by simp [mailL]] at this
theorem mailS_len {row ds : List Nat} {t k : Nat} (hk : k ≤ 12) (hd : ∀ i < k, ds.getD i 0 ≤ 12) : (mailS row ds t k).length ≤ 240 := by
  have h := StrLaws.join_length_le "" (mailL row ds t k)
  have h2 := mailL_sum (row := row) (t := t) hk hd
  have e : (mailS row ds t k).length = (Str.join "" (mailL row ds t k)).length := by show (Builtin.Str.glued "" _).length = _; rw [StrLaws.glued_eq_join]
  rw [e]
  have h0 : ("" : Str).length = 0 := rfl
  rw [h0, Nat.mul_zero] at h
  omega
theorem bodyS_ok (row ds : List Nat) (k i : Nat) : PyData.strOk (bodyS row ds k i) = true := by
  unfold PyData.strOk bodyS
  rw [Array.all_eq_true']
  intro x hx
  rw [Str.cps_append, Str.cps_append] at hx
  have ht : ∀ j, j < 4 → ∀ x ∈ (tailL.getD j ⟨#[]⟩).cps, x < 1114112 := by decide
  rcases Array.mem_append.mp hx with h | h
  · rcases Array.mem_append.mp h with h | h
    · unfold shS at h
      split at h
      · simp at h
      · simp at h; subst h; decide
    · have : x = 46 := by
        have h : x ∈ (List.replicate (ds.getD i 0) 46).toArray := h
        rw [List.mem_toArray] at h
        exact (List.mem_replicate.mp h).2
      subst this; decide
  · exact decide_eq_true (ht (i % 4) (Nat.mod_lt _ (by decide)) x h)
theorem backL_len (row : List Nat) (k : Nat) : (backL row k).length = k := by simp [backL]
section
variable {prog : Program} {w : World}
set_option maxHeartbeats 4000000 in
theorem fn_sent {row : List Nat} {t : Nat} (hl : row.length ≤ 12) (hok : ∀ k < row.length, SentOK row t k) : FN prog w topI dSent 2 [.strs (row.map sgn), .int (t : Int)] (.strs ((sentN row row.length).map dotsS)) :=
  fn_intro (by simp [topI]) okSent rfl fun A L cdv lo hk => by
    let c : Cx := ⟨prog, w, A, envC dSent L cdv, 1, topI, lo⟩
    let body := forBody (nthS dSent.body 3)
    let D : List Nat → PV := fun ds => .strs (ds.map dotsS)
    let R : List Nat → Rho := fun ds => [("dots", D ds), ("tails", .strs tailL), ("ends", .strs endL), ("turn", .int (t : Int)), ("row", .strs (row.map sgn))]
    have s0 : EX c (nthS dSent.body 0) [("turn", .int (t : Int)), ("row", .strs (row.map sgn))] .none .next [("ends", .strs endL), ("turn", .int (t : Int)), ("row", .strs (row.map sgn))] .none := by
      refine ex_assign (ev_list (l := endL.map IV.str) ?_ (by decide)) hk (.inr ⟨rfl, rfl⟩) (by simp [Own.name]) rfl
      exact evs_cons (ev_to ev_str (by rfl)) (evs_cons (ev_to ev_str (by rfl)) (evs_cons (ev_to ev_str (by rfl)) evs_nil rfl) rfl) rfl
    have s1 : EX c (nthS dSent.body 1) [("ends", .strs endL), ("turn", .int (t : Int)), ("row", .strs (row.map sgn))] .none .next [("tails", .strs tailL), ("ends", .strs endL), ("turn", .int (t : Int)), ("row", .strs (row.map sgn))] .none := by
      refine ex_assign (ev_list (l := tailL.map IV.str) ?_ (by decide)) hk (.inr ⟨rfl, rfl⟩) (by simp [Own.name]) rfl
      exact evs_cons (ev_to ev_str (by rfl)) (evs_cons (ev_to ev_str (by rfl)) (evs_cons (ev_to ev_str (by rfl)) (evs_cons (ev_to ev_str (by rfl)) evs_nil rfl) rfl) rfl) rfl
    have s2 : EX c (nthS dSent.body 2) [("tails", .strs tailL), ("ends", .strs endL), ("turn", .int (t : Int)), ("row", .strs (row.map sgn))] .none .next (R []) .none :=
      ex_assign (ev_list (l := []) evs_nil (by decide)) hk (.inr ⟨rfl, rfl⟩) (by simp [Own.name]) rfl
    let c0 : Cx := c
    have rowAt : ∀ {env : Env} {ρ : Rho} {i : Nat} {e : Expr} {p1 p2 : Pos}, EnvOK env → ρ.lookup (Str.ofString "row") = some (PV.strs (row.map sgn)) → EV { c with env := env } ρ e (.int (i : Int)) → i < row.length → EV { c with env := env } ρ (.Subscript (.Name "row" p1) e p2) (.str (sgn (row.getD i 0))) := fun {env ρ i e p1 p2} h1 h2 h3 h4 => by
      refine ev_to (ev_at (ev_var h2 h1 rfl) h3 (by rw [List.length_map]; exact h4) (by rw [List.length_map]; omega) (by first | exact (fun _ _ _ _ => rfl) | exact letgo_str)) ?_
      rw [getD_mapS sgn (d := 0) h4]
    have a0 : ∀ (k : Nat) (ds : List Nat), k < row.length → EX c (nthS body 0) (("k", .int (k : Int)) :: R ds) .none .next (("shields", .strs (shL row k)) :: ("k", .int (k : Int)) :: R ds) .none := by
      intro k ds hkl
      refine ex_assign (ev_to (ev_comp (clOf (scopeOf (retE (nthS body 0))) c.env) [("row", .strs (row.map sgn)), ("k", .int (k : Int))] (res := (List.range k).map fun i => .str (shS (row.getD i 0) (row.getD k 0))) rfl (ev_call (ev_blt (u := .type "range") hk rfl (by (repeat (first | exact List.Mem.head _ | refine List.Mem.tail _ ?_))) (by (repeat (first | exact List.Mem.head _ | refine List.Mem.tail _ ?_))) rfl) (evs_cons (ev_var (p := .int (k : Int)) rfl hk rfl) evs_nil rfl) call_range1 (.inr (.inl ⟨_, rfl⟩)) rfl) (range0 (n := k) (by omega)) hk (fun C => ?_) (fun C => rule_elt) (by simp; omega) rfl (by decide) (fun _ => rfl) (by decide) rfl rfl rfl (by repeat' (first | exact SubR.nil | refine SubR.cons rfl ?_)) (fun _ => ⟨⟨rfl, rfl, rfl⟩, ⟨rfl, rfl, rfl⟩, trivial⟩)) ?_) hk (.inr ⟨rfl, rfl⟩) (by simp [Own.name]) rfl
      · refine run_map _ fun i hi => ?_
        have hi := List.mem_range.mp hi
        let env1 := compEnvC (scopeOf (retE (nthS body 0))) (clOf (scopeOf (retE (nthS body 0))) c.env) C c.env
        have hk1 : EnvOK env1 := ⟨rfl, rfl, rfl⟩
        refine ev_ifexp (q := decide (row.getD k 0 < row.getD i 0)) (eb_to (eb_ev (ev_fn fn_gt_str (Nat.le_refl _) hk1 rfl (by (repeat (first | exact List.Mem.head _ | refine List.Mem.tail _ ?_))) (by simp [topI]) rfl (evs_cons (rowAt hk1 rfl (ev_var rfl hk1 rfl) (by omega)) (evs_cons (rowAt hk1 rfl (ev_var rfl hk1 rfl) hkl) evs_nil rfl) rfl) rfl rfl) true_bool) (ltS_sgn _ _)) (fun h => ?_) (fun h => ?_)
        · rw [show shS (row.getD i 0) (row.getD k 0) = ⟨#[]⟩ from if_pos (of_decide_eq_true h)]
          exact ev_to ev_str (by rfl)
        · rw [show shS (row.getD i 0) (row.getD k 0) = ⟨#[32]⟩ from if_neg (of_decide_eq_false h)]
          exact ev_to ev_str (by rfl)
      · unfold PV.strs shL
        rw [List.map_map]; rfl
    have a1 : ∀ (k : Nat) (ds : List Nat), k < row.length → ds.length = k → (∀ i < k, ds.getD i 0 ≤ 12) → EX c (nthS body 1) (("shields", .strs (shL row k)) :: ("k", .int (k : Int)) :: R ds) .none .next (("mail", .str (mailS row ds t k)) :: ("shields", .strs (shL row k)) :: ("k", .int (k : Int)) :: R ds) .none := by
      intro k ds hkl hdl hd
      let comp := match retE (nthS body 1) with | .Call _ [e] _ _ => e | e => e
      have E : EV c (("shields", .strs (shL row k)) :: ("k", .int (k : Int)) :: R ds) comp (.strs (mailL row ds t k)) := by
        refine ev_to (ev_comp (clOf (scopeOf comp) c.env) [("shields", .strs (shL row k)), ("dots", D ds), ("tails", .strs tailL), ("ends", .strs endL), ("turn", .int (t : Int)), ("k", .int (k : Int))] (res := (List.range k).map fun i => .str (bodyS row ds k i ++ endL.getD ((t + i + k) % 3) ⟨#[]⟩)) rfl (ev_call (ev_blt (u := .type "range") hk rfl (by (repeat (first | exact List.Mem.head _ | refine List.Mem.tail _ ?_))) (by (repeat (first | exact List.Mem.head _ | refine List.Mem.tail _ ?_))) rfl) (evs_cons (ev_var (p := .int (k : Int)) rfl hk rfl) evs_nil rfl) call_range1 (.inr (.inl ⟨_, rfl⟩)) rfl) (range0 (n := k) (by omega)) hk (fun C => ?_) (fun C => rule_elt) (by simp; omega) rfl (by decide) (fun _ => rfl) (by decide) rfl rfl rfl (by repeat' (first | exact SubR.nil | refine SubR.cons rfl ?_)) (fun _ => ⟨⟨rfl, rfl, rfl⟩, ⟨rfl, rfl, rfl⟩, ⟨rfl, rfl, rfl⟩, ⟨rfl, rfl, rfl⟩, ⟨rfl, rfl, rfl⟩, ⟨rfl, rfl, rfl⟩, trivial⟩)) ?_
        · refine run_map _ fun i hi => ?_
          have hi := List.mem_range.mp hi
          let env1 := compEnvC (scopeOf comp) (clOf (scopeOf comp) c.env) C c.env
          have hk1 : EnvOK env1 := ⟨rfl, rfl, rfl⟩
          have hb := bodyS_len row ds k i
          have he := end_len (t + i + k)
          have hdi := hd i hi
          have big : 1000 ≤ sizeLine := by decide
          have hs1 := shS_len (row.getD i 0) (row.getD k 0)
          have ht1 := tail_len i
          refine ev_bin (ev_bin (ev_bin (ev_to (ev_at (ev_var (p := .strs (shL row k)) rfl hk1 rfl) (ev_var (p := .int (i : Int)) rfl hk1 rfl) (by simp [shL]; exact hi) (by simp [shL]; omega) (by first | exact (fun _ _ _ _ => rfl) | exact letgo_str)) (p' := .str (shS (row.getD i 0) (row.getD k 0))) ?_) (ev_to (ev_at (ev_var (p := D ds) rfl hk1 rfl) (ev_var (p := .int (i : Int)) rfl hk1 rfl) (by rw [List.length_map, hdl]; exact hi) (by rw [List.length_map]; omega) (by first | exact (fun _ _ _ _ => rfl) | exact letgo_str)) (p' := .str (dotsS (ds.getD i 0))) ?_) (bin_add_str ?_)) (ev_at (ev_var (p := .strs tailL) rfl hk1 rfl) (ev_mod (b := 4) (ev_var (p := .int (i : Int)) rfl hk1 rfl) (by decide)) (Nat.mod_lt _ (by decide)) (by decide) (by first | exact (fun _ _ _ _ => rfl) | exact letgo_str)) (bin_add_str ?_)) (ev_at (ev_var (p := .strs endL) rfl hk1 rfl) (ev_mod (b := 3) (ev_to (ev_bin (ev_bin (ev_var (p := .int (t : Int)) rfl hk1 rfl) (ev_var (p := .int (i : Int)) rfl hk1 rfl) bin_add_int) (ev_var (p := .int (k : Int)) rfl hk1 rfl) bin_add_int) (by show PV.int _ = PV.int ((t + i + k : Nat) : Int); congr 1)) (by decide)) (Nat.mod_lt _ (by decide)) (by decide) (by first | exact (fun _ _ _ _ => rfl) | exact letgo_str)) (bin_add_str ?_)
          · unfold shL; rw [getD_rangeS _ hi]
          · rw [getD_mapS dotsS (d := 0) (by omega)]
          · rw [dotsS_len]; omega
          · rw [str_len_add, dotsS_len]; omega
          · have : (shS (row.getD i 0) (row.getD k 0) ++ dotsS (ds.getD i 0) ++ tailL.getD (i % 4) ⟨#[]⟩).length ≤ ds.getD i 0 + 3 := hb
            omega
        · unfold PV.strs mailL
          rw [List.map_map]; rfl
      exact ex_assign (ev_meth ev_str (evs_cons E evs_nil rfl) (meth_join (by
        have := mailL_sum (row := row) (ds := ds) (t := t) (k := k) (by omega) hd
        have h0 : ("" : Str).length = 0 := rfl
        show _ + _ * ("" : Str).length ≤ _
        rw [h0]; omega)) rfl (by decide) rfl rfl) hk (.inl rfl) (by simp [Own.name]) rfl
    have main : ∀ (k : Nat), k < row.length → EXs c body (("k", .int (k : Int)) :: R (sentN row k)) .none .next (R (sentN row (k + 1))) .none := by
      intro k hkl
      have hdl := sentN_len row k
      have hd : ∀ i < k, (sentN row k).getD i 0 ≤ 12 := fun i hi => by have := (sentN_at row hi).2; omega
      have hml := mailS_len (row := row) (ds := sentN row k) (t := t) (k := k) (by omega) hd
      obtain ⟨z, hz, hsp, hzl⟩ := hok k hkl
      let ds := sentN row k
      let ds' := bumped row ds k
      have hd' : ∀ i < k, ds'.getD i 0 ≤ 13 := fun i hi => by
        show (bumped row ds k).getD i 0 ≤ 13
        rw [bumped_at row ds hi]
        have := hd i hi
        show (sentN row k).getD i 0 + _ ≤ 13
        split <;> omega
      have hdl' : ds'.length = k := by show (bumped row ds k).length = k; simp [bumped]
      let T : List Str := backL row k ++ [⟨#[]⟩, ddS]
      have hTl : T.length = k + 2 := by show (backL row k ++ _).length = _; rw [List.length_append, backL_len]; rfl
      let ρ1 : Rho := ("shields", .strs (shL row k)) :: ("k", .int (k : Int)) :: R ds
      let ρ2 : Rho := ("mail", .str (mailS row ds t k)) :: ρ1
      let ρ3 : Rho := ("told", .strs T) :: ρ2
      let ρ4 : Rho := ("dots", D ds') :: ρ3
      have big : 1000 ≤ sizeLine := by decide
      have a2 : EX c (nthS body 2) ρ2 .none .next ρ3 .none := by
        refine ex_assign (ev_to (ev_meth (ev_fn (fn_quote (x := mailS row ds t k ++ lastS) ?_ hz) (Nat.le_refl _) hk rfl (by (repeat (first | exact List.Mem.head _ | refine List.Mem.tail _ ?_))) (by simp [topI]) rfl (evs_cons (ev_bin (ev_var (p := .str (mailS row ds t k)) rfl hk rfl) (ev_to ev_str (show PV.str (Str.ofString "\r.") = .str lastS by rfl)) (bin_add_str ?_)) evs_nil rfl) rfl rfl) (evs_cons (ev_to ev_str (show PV.str (Str.ofString "\r\n") = .str crlfS by rfl)) evs_nil rfl) (meth_split (by rfl) (by omega) ?_) rfl (by decide) rfl rfl) ?_) hk (.inr ⟨rfl, rfl⟩) (by simp [Own.name]) rfl
        · show (mailS row ds t k ++ lastS).length ≤ _
          rw [str_len_add]; show _ + 2 ≤ _
          have : (mailS row ds t k).length ≤ 240 := hml
          omega
        · show _ + 2 ≤ _
          have : (mailS row ds t k).length ≤ 240 := hml
          omega
        · rw [hsp]; show T.length ≤ _; omega
        · rw [hsp]
      have tE : ∀ {ρ : Rho} {p : Pos}, ρ.lookup (Str.ofString "told") = some (PV.strs T) → EV c ρ (.Name "told" p) (.strs T) := fun {ρ p} h => ev_var h hk rfl
      have a3 : EB c ρ3 (testOf (nthS body 3)) false := by
        refine eb_to (eb_cmp (ev_to (ev_item (tE rfl) (ev_slice (epart_some (ev_var (p := .int (k : Int)) rfl hk rfl)) epart_none epart_none) (item_list_slc (by decide) (by rw [List.length_map]; omega)) (by first | exact (fun _ _ _ _ => rfl) | exact letgo_str)) (p' := .strs [⟨#[]⟩, ddS]) ?_) (ev_list (l := ([⟨#[]⟩, ddS] : List Str).map IV.str) (evs_cons (ev_to ev_str (by rfl)) (evs_cons (ev_to ev_str (by rfl)) evs_nil rfl) rfl) (by decide)) (cmp_ne_strs (ys := [⟨#[]⟩, ddS]) (zs := [⟨#[]⟩, ddS]) (by decide +kernel) (by decide +kernel)) rfl) (by decide +kernel)
        rw [pick_from, ← List.map_drop]
        rw [show T.drop k = [⟨#[]⟩, ddS] from List.drop_left' (backL_len row k)]
      have TAt : ∀ {i : Nat}, i < k → T.getD i ⟨#[]⟩ = bodyS row ds' k i := fun {i} hi => by
        show (backL row k ++ _).getD i _ = _
        rw [List.getD_eq_getElem?_getD, List.getElem?_append_left (by rw [backL_len]; exact hi), ← List.getD_eq_getElem?_getD]
        exact getD_rangeS _ hi
      have a4 : EX c (nthS body 4) ρ3 .none .next ρ4 .none := by
        refine ex_assign (ev_to (ev_comp (clOf (scopeOf (retE (nthS body 4))) c.env) [("told", .strs T), ("shields", .strs (shL row k)), ("tails", .strs tailL)] (res := (List.range k).map fun i => .str (dotsS (ds'.getD i 0))) rfl (ev_call (ev_blt (u := .type "range") hk rfl (by (repeat (first | exact List.Mem.head _ | refine List.Mem.tail _ ?_))) (by (repeat (first | exact List.Mem.head _ | refine List.Mem.tail _ ?_))) rfl) (evs_cons (ev_var (p := .int (k : Int)) rfl hk rfl) evs_nil rfl) call_range1 (.inr (.inl ⟨_, rfl⟩)) rfl) (range0 (n := k) (by omega)) hk (fun C => ?_) (fun C => rule_elt) (by simp; omega) rfl (by decide) (fun _ => rfl) (by decide) rfl rfl rfl (by repeat' (first | exact SubR.nil | refine SubR.cons rfl ?_)) (fun _ => ⟨⟨rfl, rfl, rfl⟩, ⟨rfl, rfl, rfl⟩, ⟨rfl, rfl, rfl⟩, trivial⟩)) ?_) hk (.inr ⟨rfl, rfl⟩) (by simp [Own.name]) rfl
        · refine run_map _ fun i hi => ?_
          have hi := List.mem_range.mp hi
          let env1 := compEnvC (scopeOf (retE (nthS body 4))) (clOf (scopeOf (retE (nthS body 4))) c.env) C c.env
          have hk1 : EnvOK env1 := ⟨rfl, rfl, rfl⟩
          let ρi : Rho := [("i", .int (i : Int)), ("told", .strs T), ("shields", .strs (shL row k)), ("tails", .strs tailL)]
          have iE : ∀ {p : Pos}, EV { c with env := env1 } ρi (.Name "i" p) (.int (i : Int)) := ev_var rfl hk1 rfl
          have toldE : ∀ {p1 p2 p3 : Pos}, EV { c with env := env1 } ρi (.Subscript (.Name "told" p1) (.Name "i" p2) p3) (.str (bodyS row ds' k i)) := fun {_ _ _} =>
            ev_to (ev_at (ev_var (p := .strs T) rfl hk1 rfl) iE (by omega) (by omega) (by first | exact (fun _ _ _ _ => rfl) | exact letgo_str)) (by rw [TAt hi])
          have shE : ∀ {p1 p2 p3 : Pos}, EV { c with env := env1 } ρi (.Subscript (.Name "shields" p1) (.Name "i" p2) p3) (.str (shS (row.getD i 0) (row.getD k 0))) := fun {_ _ _} =>
            ev_to (ev_at (ev_var (p := .strs (shL row k)) rfl hk1 rfl) iE (by simp [shL]; exact hi) (by simp [shL]; omega) (by first | exact (fun _ _ _ _ => rfl) | exact letgo_str)) (by unfold shL; rw [getD_rangeS _ hi])
          have taE : ∀ {p1 p2 p3 p4 p5 : Pos}, EV { c with env := env1 } ρi (.Subscript (.Name "tails" p1) (.BinOp (.Name "i" p2) .Mod (.Constant (.int 4) 0 p3) p4) p5) (.str (tailL.getD (i % 4) ⟨#[]⟩)) := fun {_ _ _ _ _} =>
            ev_at (ev_var (p := .strs tailL) rfl hk1 rfl) (ev_mod (b := 4) iE (by decide)) (Nat.mod_lt _ (by decide)) (by decide) (by first | exact (fun _ _ _ _ => rfl) | exact letgo_str)
          have hb := bodyS_len row ds' k i
          have hdi := hd' i hi
          have hs1 := shS_len (row.getD i 0) (row.getD k 0)
          have ht1 := tail_len i
          refine ev_to (ev_item toldE (ev_slice (epart_some (ev_lenS shE hk1 rfl (by omega) rfl rfl rfl)) (epart_some (ev_bin (ev_lenS toldE hk1 rfl (by omega) rfl rfl rfl) (ev_lenS taE hk1 rfl (by omega) rfl rfl rfl) bin_sub_int)) epart_none) (item_str_slc (by omega)) (by first | exact (fun _ _ _ _ => rfl) | exact letgo_str)) ?_
          unfold bodyS
          rw [slice_mid]
        · show PV.list _ = PV.list _
          congr 1
          show _ = ((bumped row ds k).map dotsS).map IV.str
          unfold bumped
          rw [List.map_map, List.map_map]
          refine List.map_congr_left fun i hi => ?_
          have hi := List.mem_range.mp hi
          show IV.str (dotsS ((bumped row ds k).getD i 0)) = _
          rw [bumped_at row ds hi]; rfl
      have a5 : EB c ρ4 (testOf (nthS body 5)) false := by
        let comp := match testOf (nthS body 5) with | .Compare e _ _ _ => e | e => e
        have E : EV c ρ4 comp (.strs (backL row k)) := by
          refine ev_to (ev_comp (clOf (scopeOf comp) c.env) [("shields", .strs (shL row k)), ("dots", D ds'), ("tails", .strs tailL)] (res := (List.range k).map fun i => .str (bodyS row ds' k i)) rfl (ev_call (ev_blt (u := .type "range") hk rfl (by (repeat (first | exact List.Mem.head _ | refine List.Mem.tail _ ?_))) (by (repeat (first | exact List.Mem.head _ | refine List.Mem.tail _ ?_))) rfl) (evs_cons (ev_var (p := .int (k : Int)) rfl hk rfl) evs_nil rfl) call_range1 (.inr (.inl ⟨_, rfl⟩)) rfl) (range0 (n := k) (by omega)) hk (fun C => ?_) (fun C => rule_elt) (by simp; omega) rfl (by decide) (fun _ => rfl) (by decide) rfl rfl rfl (by repeat' (first | exact SubR.nil | refine SubR.cons rfl ?_)) (fun _ => ⟨⟨rfl, rfl, rfl⟩, ⟨rfl, rfl, rfl⟩, ⟨rfl, rfl, rfl⟩, trivial⟩)) ?_
          · refine run_map _ fun i hi => ?_
            have hi := List.mem_range.mp hi
            let env1 := compEnvC (scopeOf comp) (clOf (scopeOf comp) c.env) C c.env
            have hk1 : EnvOK env1 := ⟨rfl, rfl, rfl⟩
            have hb := bodyS_len row ds' k i
            have hdi := hd' i hi
            have hs1 := shS_len (row.getD i 0) (row.getD k 0)
            have ht1 := tail_len i
            refine ev_bin (ev_bin (ev_to (ev_at (ev_var (p := .strs (shL row k)) rfl hk1 rfl) (ev_var (p := .int (i : Int)) rfl hk1 rfl) (by simp [shL]; exact hi) (by simp [shL]; omega) (by first | exact (fun _ _ _ _ => rfl) | exact letgo_str)) (p' := .str (shS (row.getD i 0) (row.getD k 0))) ?_) (ev_to (ev_at (ev_var (p := D ds') rfl hk1 rfl) (ev_var (p := .int (i : Int)) rfl hk1 rfl) (by rw [List.length_map, hdl']; exact hi) (by rw [List.length_map]; omega) (by first | exact (fun _ _ _ _ => rfl) | exact letgo_str)) (p' := .str (dotsS (ds'.getD i 0))) ?_) (bin_add_str ?_)) (ev_at (ev_var (p := .strs tailL) rfl hk1 rfl) (ev_mod (b := 4) (ev_var (p := .int (i : Int)) rfl hk1 rfl) (by decide)) (Nat.mod_lt _ (by decide)) (by decide) (by first | exact (fun _ _ _ _ => rfl) | exact letgo_str)) (bin_add_str ?_)
            · unfold shL; rw [getD_rangeS _ hi]
            · rw [getD_mapS dotsS (d := 0) (by omega)]
            · rw [dotsS_len]; omega
            · rw [str_len_add, dotsS_len]; omega
          · unfold PV.strs backL
            rw [List.map_map]; rfl
        have hok : ∀ y ∈ backL row k, PyData.strOk y = true := fun y hy => by
          obtain ⟨i, _, rfl⟩ := List.mem_map.mp hy
          exact bodyS_ok _ _ _ _
        refine eb_to (eb_cmp E (ev_to (ev_item (tE rfl) (ev_slice epart_none (epart_some (ev_var (p := .int (k : Int)) rfl hk rfl)) epart_none) (item_list_slc (by decide) (by rw [List.length_map]; omega)) (by first | exact (fun _ _ _ _ => rfl) | exact letgo_str)) (p' := .strs (backL row k)) ?_) (cmp_ne_strs hok hok) rfl) (by simp)
        rw [pick_to, ← List.map_take]
        rw [show T.take k = backL row k from List.take_left' (backL_len row k)]
      have a6 : EX c (nthS body 6) ρ4 .none .next (("dots", D (sentN row (k + 1))) :: ρ4) .none := by
        refine ex_assign (ev_to (ev_bin (ev_var (p := D ds') rfl hk rfl) (ev_list (l := ([dotsS 1] : List Str).map IV.str) (evs_cons (ev_to ev_str (by rfl)) evs_nil rfl) (by decide)) (bin_add_list (by rw [List.length_map, List.length_map]; show _ + 1 ≤ _; omega))) ?_) hk (.inr ⟨rfl, rfl⟩) (by simp [Own.name]) rfl
        show PV.list _ = PV.list _
        congr 1
        show _ = ((bumped row (sentN row k) k ++ [1]).map dotsS).map IV.str
        rw [List.map_append, List.map_append]; rfl
      exact exs_cons (a0 k ds hkl) (exs_cons (a1 k ds hkl hdl hd) (exs_cons a2 (exs_cons (ex_if_false a3 exs_nil) (exs_cons a4 (exs_cons (ex_if_false a5 exs_nil) (exs_cons (ex_weakR (by repeat' (first | exact SubR.nil | refine SubR.cons rfl ?_)) a6) exs_nil))))))
    have loop : ∀ (n k : Nat), k + n = row.length → ForRun c "k" body ((List.range' k n).map fun i => PV.int ((i : Nat) : Int)) (R (sentN row k)) .none .next (R (sentN row row.length)) .none := by
      intro n
      induction n with
      | zero => intro k hk2; obtain rfl : k = row.length := by omega
                exact .nil
      | succ n ih =>
        intro k hk2
        rw [List.range'_succ, List.map_cons]
        exact .next (by simp [Own.name]) (main k (by omega)) (ih (k + 1) (by omega))
    have l0 := loop row.length 0 (by omega)
    rw [← List.range_eq_range'] at l0
    exact ⟨_, _, exs_cons s0 (exs_cons s1 (exs_cons s2 (exs_cons (ex_for (ev_call (ev_blt (u := .type "range") hk rfl (by (repeat (first | exact List.Mem.head _ | refine List.Mem.tail _ ?_))) (by (repeat (first | exact List.Mem.head _ | refine List.Mem.tail _ ?_))) rfl) (evs_cons (ev_len_strs (r := row) (x := "row") hk rfl rfl rfl rfl (by omega) rfl rfl) evs_nil rfl) call_range1 (.inr (.inl ⟨_, rfl⟩)) rfl) (range0 (n := row.length) (by omega)) l0 hk (.inr ⟨rfl, rfl⟩) (.inl ⟨rfl, exs_nil⟩) fun _ => rfl) (cons_ret (ex_ret (ev_var rfl hk rfl))))))⟩
end
end Mine
end
section
open PySem PySem.W PySem.Calls PyProof.Rows PySem.Spec PySem.StrLaws
set_option maxRecDepth 100000
namespace Mine
noncomputable def endOK (e : List Nat) : Prop := e = [10] ∨ e = [13] ∨ e = [13, 10]
noncomputable def bodyOK (b : List Nat) : Prop := b ≠ [] ∧ ∀ a ∈ b, a ≠ 10 ∧ a ≠ 13
theorem q2_end {e R : List Nat} (he : endOK e) (hR : R.head? ≠ some 10) : q2 false (e ++ R) = 13 :: 10 :: q2 false R := by
  rcases he with rfl | rfl | rfl
  · rfl
  · show 13 :: 10 :: q2 true R = _
    rw [q2_sw hR]
  · rfl
theorem q2_mail : ∀ (l : List (List Nat × List Nat)), (∀ p ∈ l, bodyOK p.1 ∧ endOK p.2) → q2 false ((l.flatMap fun p => p.1 ++ p.2) ++ [13, 46]) = (l.flatMap fun p => p.1 ++ [13, 10]) ++ [13, 10, 46]
  | [], _ => rfl
  | p :: l, h => by
    have hp := h p List.mem_cons_self
    have ih := q2_mail l fun q hq => h q (List.mem_cons_of_mem _ hq)
    rw [List.flatMap_cons, List.flatMap_cons, List.append_assoc, List.append_assoc, q2_plain _ _ hp.1.2, q2_end hp.2, ih]
    · simp
    · cases l with
      | nil => simp
      | cons q l =>
        have hq := (h q (List.mem_cons_of_mem _ List.mem_cons_self)).1
        rw [List.flatMap_cons]
        cases hb : q.1 with
        | nil => exact absurd hb hq.1
        | cons a r =>
          have := (hq.2 a (by rw [hb]; exact List.mem_cons_self)).1
          simp [this]
noncomputable def dbl : List Nat → List Nat
  | [] => []
  | a :: r => if a = 46 then 46 :: 46 :: r else a :: r
theorem q1_false : ∀ (w R : List Nat), (∀ a ∈ w, a ≠ 10) → q1 false (w ++ R) = w ++ q1 false R
  | [], R, _ => rfl
  | a :: w, R, h => by
    have ha := h a List.mem_cons_self
    show q1 false (a :: (w ++ R)) = a :: (w ++ q1 false R)
    rw [q1, if_neg (by simp), show (a == 10) = false from beq_eq_false_iff_ne.mpr ha, q1_false w R fun b hb => h b (List.mem_cons_of_mem _ hb)]
theorem q1_row {b R : List Nat} (hb : ∀ a ∈ b, a ≠ 10) : q1 true (b ++ 13 :: 10 :: R) = dbl b ++ 13 :: 10 :: q1 true R := by
  have tail : ∀ R, q1 false (13 :: 10 :: R) = 13 :: 10 :: q1 true R := fun R => rfl
  cases b with
  | nil => rfl
  | cons a r =>
    have ha := hb a List.mem_cons_self
    have hr : ∀ c ∈ r, c ≠ 10 := fun c hc => hb c (List.mem_cons_of_mem _ hc)
    show q1 true (a :: (r ++ 13 :: 10 :: R)) = _
    rw [q1]
    show _ = (if a = 46 then 46 :: 46 :: r else a :: r) ++ 13 :: 10 :: q1 true R
    by_cases h : a = 46
    · rw [if_pos ⟨rfl, h⟩, if_pos h, q1_false r _ hr, tail]; rfl
    · rw [if_neg (fun x => h x.2), if_neg h, show (a == 10) = false from beq_eq_false_iff_ne.mpr ha, q1_false r _ hr, tail]; rfl
theorem q1_mail : ∀ (l : List (List Nat)), (∀ b ∈ l, ∀ a ∈ b, a ≠ 10) → q1 true ((l.flatMap fun b => b ++ [13, 10]) ++ [13, 10, 46]) = inter2 13 10 (l.map dbl ++ [[], [46, 46]])
  | [], _ => rfl
  | b :: l, h => by
    have ih := q1_mail l fun q hq => h q (List.mem_cons_of_mem _ hq)
    rw [List.flatMap_cons, List.append_assoc, List.append_assoc]
    show q1 true (b ++ 13 :: 10 :: ((l.flatMap fun b => b ++ [13, 10]) ++ [13, 10, 46])) = _
    rw [q1_row (h b List.mem_cons_self), ih]
    cases l with
    | nil => rfl
    | cons c l => rfl
theorem q1_len : ∀ (st : Bool) (l : List Nat), (q1 st l).length ≤ 2 * l.length
  | _, [] => by simp [q1]
  | st, a :: r => by
    rw [q1]
    split
    · have := q1_len false r; simp only [List.length_cons]; omega
    · have := q1_len (a == 10) r; simp only [List.length_cons]; omega
theorem str_list {x : Str} {l : List Nat} (h : x.cps.toList = l) : x = ⟨l.toArray⟩ := by
  apply Str.ext'
  apply Array.toList_inj.mp
  rw [h]
theorem cps_app (x y : Str) : (x ++ y).cps.toList = x.cps.toList ++ y.cps.toList := by rw [Str.cps_append, Array.toList_append]
theorem dots_list (n : Nat) : (dotsS n).cps.toList = List.replicate n 46 := by unfold dotsS; simp
theorem tail_list : ∀ j < 4, ∀ a ∈ (tailL.getD j ⟨#[]⟩).cps.toList, a ≠ 10 ∧ a ≠ 13 := by decide
theorem end_list : ∀ j < 3, endOK (endL.getD j ⟨#[]⟩).cps.toList := by
  intro j hj
  unfold endOK
  match j, hj with
  | 0, _ => exact .inl rfl
  | 1, _ => exact .inr (.inl rfl)
  | 2, _ => exact .inr (.inr rfl)
theorem body_list (row ds : List Nat) (k i : Nat) : (bodyS row ds k i).cps.toList = (shS (row.getD i 0) (row.getD k 0)).cps.toList ++ (List.replicate (ds.getD i 0) 46 ++ (tailL.getD (i % 4) ⟨#[]⟩).cps.toList) := by
  unfold bodyS
  rw [cps_app, cps_app, dots_list, List.append_assoc]
theorem body_ok {row ds : List Nat} {k i : Nat} (hd : 1 ≤ ds.getD i 0) : bodyOK (bodyS row ds k i).cps.toList := by
  rw [body_list]
  constructor
  · cases hn : ds.getD i 0 with
    | zero => omega
    | succ n => simp [List.replicate_succ]
  · intro a ha
    rcases List.mem_append.mp ha with h | h
    · unfold shS at h
      split at h
      · simp at h
      · simp at h; subst h; decide
    · rcases List.mem_append.mp h with h | h
      · rw [(List.mem_replicate.mp h).2]; decide
      · exact tail_list _ (Nat.mod_lt _ (by decide)) a h
theorem dbl_body {row ds : List Nat} {k i : Nat} (hik : i < k) (hd : 1 ≤ ds.getD i 0) : dbl (bodyS row ds k i).cps.toList = (bodyS row (bumped row ds k) k i).cps.toList := by
  rw [body_list, body_list, bumped_at row ds hik]
  unfold shS
  cases hn : ds.getD i 0 with
  | zero => omega
  | succ n =>
    by_cases h : row.getD k 0 < row.getD i 0
    · rw [if_pos h, if_pos h]; rfl
    · rw [if_neg h, if_neg h]; rfl
theorem sent_ok {row : List Nat} {t k : Nat} (hk : k ≤ 12) : SentOK row t k := by
  let B : Nat → List Nat := fun i => (bodyS row (sentN row k) k i).cps.toList
  let Ee : Nat → List Nat := fun i => (endL.getD ((t + i + k) % 3) ⟨#[]⟩).cps.toList
  have hB : ∀ i < k, bodyOK (B i) := fun i hi => body_ok (sentN_at row hi).1
  have hE : ∀ i, endOK (Ee i) := fun i => end_list _ (Nat.mod_lt _ (by decide))
  have e0 : (mailS row (sentN row k) t k ++ lastS).cps.toList = (((List.range k).map fun i => (B i, Ee i)).flatMap fun p => p.1 ++ p.2) ++ [13, 46] := by
    rw [cps_app]
    unfold mailS
    rw [join_cat]
    congr 1
    unfold catL mailL
    rw [List.map_map, List.flatMap_map, List.flatMap_def]
    congr 1
    exact List.map_congr_left fun i _ => cps_app _ _
  have e1 : q2 false (mailS row (sentN row k) t k ++ lastS).cps.toList = (((List.range k).map B).flatMap fun b => b ++ [13, 10]) ++ [13, 10, 46] := by
    rw [e0, q2_mail _ fun p hp => by
      obtain ⟨i, hi, rfl⟩ := List.mem_map.mp hp
      exact ⟨hB i (List.mem_range.mp hi), hE i⟩]
    rw [List.flatMap_map, List.flatMap_map]
  have e2 : q1 true (q2 false (mailS row (sentN row k) t k ++ lastS).cps.toList) = inter2 13 10 (((List.range k).map B).map dbl ++ [[], [46, 46]]) := by
    rw [e1, q1_mail _ fun b hb => by
      obtain ⟨i, hi, rfl⟩ := List.mem_map.mp hb
      exact fun a ha => ((hB i (List.mem_range.mp hi)).2 a ha).1]
  have e3 : ((List.range k).map B).map dbl = (backL row k).map fun s => s.cps.toList := by
    unfold backL
    rw [List.map_map, List.map_map]
    exact List.map_congr_left fun i hi => dbl_body (List.mem_range.mp hi) (sentN_at row (List.mem_range.mp hi)).1
  have hlen : ((((List.range k).map B).flatMap fun b => b ++ [13, 10]) ++ [13, 10, 46]).length ≤ 1000 := by
    rw [List.length_append]
    have : (((List.range k).map B).flatMap fun b => b ++ [13, 10]).length ≤ k * 20 := by
      rw [List.flatMap_def, List.length_flatten, List.map_map, List.map_map]
      have := sum_le (f := fun i => (B i ++ [13, 10]).length) (b := 20) (l := List.range k) fun i hi => by
        have hi := List.mem_range.mp hi
        have h1 := bodyS_len row (sentN row k) k i
        have h2 := (sentN_at row hi).2
        show (B i ++ [13, 10]).length ≤ 20
        rw [List.length_append]
        have : (B i).length = (bodyS row (sentN row k) k i).length := by show (bodyS row (sentN row k) k i).cps.toList.length = _; rw [Array.length_toList]; rfl
        simp only [List.length_cons, List.length_nil]
        omega
      rw [List.length_range] at this
      exact this
    simp only [List.length_cons, List.length_nil]
    omega
  obtain ⟨z, hz, hzl⟩ := quoted_of (x := mailS row (sentN row k) t k ++ lastS) (by rw [e1]; omega)
  have hz2 : z = ⟨(inter2 13 10 ((backL row k).map (fun s => s.cps.toList) ++ [[], [46, 46]])).toArray⟩ := str_list (by rw [hzl, e2, e3])
  refine ⟨z, hz, ?_, ?_⟩
  · rw [hz2]
    show Txt.split _ ⟨#[13, 10]⟩ = _
    rw [split2 (by decide) (by decide) (by simp) fun w hw => ?_, List.map_append, List.map_map]
    · have : ((backL row k).map ((fun w : List Nat => (⟨w.toArray⟩ : Str)) ∘ fun s => s.cps.toList)) = backL row k := by
        conv => rhs; rw [← List.map_id (backL row k)]
        exact List.map_congr_left fun s _ => (str_list rfl).symm
      rw [this]; rfl
    · rcases List.mem_append.mp hw with h | h
      · obtain ⟨s, hs, rfl⟩ := List.mem_map.mp h
        obtain ⟨i, hi, rfl⟩ := List.mem_map.mp hs
        have hi := List.mem_range.mp hi
        have hb := body_ok (row := row) (ds := bumped row (sentN row k) k) (k := k) (i := i) (by rw [bumped_at row _ hi]; have := (sentN_at row hi).1; omega)
        exact fun h13 => (hb.2 13 h13).2 rfl
      · simp at h; rcases h with rfl | rfl <;> decide
  · have hq : (q1 true (q2 false (mailS row (sentN row k) t k ++ lastS).cps.toList)).length ≤ 2 * (q2 false (mailS row (sentN row k) t k ++ lastS).cps.toList).length := q1_len _ _
    rw [e1] at hq
    show z.cps.size ≤ 10000
    rw [← Array.length_toList, hzl, e1]
    omega
end Mine
end
section
open PySem PySem.W PySem.Calls PyProof.Rows PySem.Spec
set_option maxRecDepth 100000
namespace Mine
noncomputable def smallL : List Str := namesL.map Txt.lower ++ namesL.map Txt.lower
noncomputable def seenN : List Nat → Str → Str
  | [], s => s
  | t :: r, s => seenN r (if (t : Int) ∈ b1L then s else s ++ foldB3 t)
noncomputable def fallQ (W : List Nat) (p : Nat) : Bool := decide (W.getD p 0 < W.getD (p - 1) 0)
noncomputable def flagStep (W : List Nat) (sh f j : Nat) : Nat := if fallQ W (1 + j) = true then f ||| 2 ^ (1 + j - 1 + sh) else f
noncomputable def flagsN (W : List Nat) (sh : Nat) : Nat := (List.range (W.length - 1)).foldl (flagStep W sh) 0
noncomputable def descN (W : List Nat) : List Nat := ((List.range (W.length - 1)).filter fun j => fallQ W (1 + j)).map (1 + ·)
noncomputable def foldedS (F : Nat) : Str := Txt.join "" ((prettyS F).cps.toList.map foldB3)
noncomputable def commaS : Str := ", "
noncomputable def partsL (F : Nat) : List Str := Txt.split (foldedS F) commaS
noncomputable def ownL (W : List Nat) (sh : Nat) : List Str := (descN W).map fun p => namesL.getD (p - 1 + sh) ⟨#[]⟩
noncomputable def rowOf (W : List Nat) : List Nat := moved W []
noncomputable def dotsOf (W : List Nat) : List Nat := sentN (rowOf W) (rowOf W).length
structure LawFacts (l : List Int) (cs : List Nat) (c4 : Nat) (ts W : List Nat) : Prop where
  hlen : l.length ≤ 63
  cells : cellsOf l = (cs ++ [c4]).map Int.ofNat
  cl : cs.length = 4
  tl : ts.length ≤ 20
  typed : typedL cs ⟨#[]⟩ = wordS ts
  word : wordL cs ⟨#[]⟩ = wordS W
  hid : ∀ s ∈ ts, (!(Builtin.Str.occurrences hiddenS (sgn s) 0 hiddenS.length 1).isEmpty) = decide ((s : Int) ∈ b1L)
  fold : ∀ s ∈ ts, (Txt.lower (sgn s)).length ≤ 100 ∧ (foldB3 s).length ≤ 100
  seen : seenN ts ⟨#[]⟩ = wordS W
  w1 : 1 ≤ W.length
  w12 : W.length ≤ 12
  wc : ∀ a ∈ W, a < 0x110000
  plen : (prettyS (flagsN W (c4 % 100 % 22))).length ≠ 1
  pfold : ∀ n ∈ (prettyS (flagsN W (c4 % 100 % 22))).cps.toList, (Txt.lower (sgn n)).length ≤ 100 ∧ (foldB3 n).length ≤ 10
  parts : flagsN W (c4 % 100 % 22) ≠ 0 → ∀ y ∈ partsL (flagsN W (c4 % 100 % 22)), ∃ x ∈ smallL, eqS x y = true
  places : (if flagsN W (c4 % 100 % 22) = 0 then [] else (partsL (flagsN W (c4 % 100 % 22))).map fun y => ((indexS y smallL : Nat) : Int) - ((c4 % 100 % 22 : Nat) : Int) + 1) = (descN W).map Int.ofNat
  rlen : (rowOf W).length = W.length
  sent : ∀ k < (rowOf W).length, SentOK (rowOf W) (c4 / 10000) k
  okd : okD (dotsOf W) (sortN W).length
  back : backW (toldN (dotsOf W) (sortN W) []).length (toldN (dotsOf W) (sortN W) []) [] = W
  count : ((countS ⟨#[46]⟩ (chars (Txt.join crlfS ((dotsOf W).map dotsS))) : Nat) : Int) = (W.length : Int) + ((descN W).map Int.ofNat).sum
  told : prettyS (flagsN W (c4 % 100 % 22)) = if ownL W (c4 % 100 % 22) = [] then ("0x0" : Str) else Txt.join commaS (ownL W (c4 % 100 % 22))
  far : prettyS ((flagsN W (c4 % 100 % 22) ||| 3 * 2 ^ (32 + c4 / 100 % 100)) ||| flagsN W (c4 % 100 % 22)) = Txt.join commaS (ownL W (c4 % 100 % 22) ++ [hexS (3 * 2 ^ (32 + c4 / 100 % 100))])
theorem sortN_len (l : List Nat) : (sortN l).length = l.length := (sortN_perm l).length_eq
theorem mark_strs (T : Nat) (l : List Str) : (PV.strs l).mark T = PV.strs l := by
  show PV.list _ = PV.list _
  rw [List.map_map]; rfl
theorem mark_ints (T : Nat) (l : List Int) : (PV.ints l).mark T = PV.ints l := by
  show PV.list _ = PV.list _
  rw [List.map_map]; rfl
theorem mark_small (T : Nat) (l : List Str) : (PV.list (l.map IV.strC)).mark T = PV.list (l.map fun z => .strB z T) := by
  show PV.list _ = PV.list _
  rw [List.map_map]; rfl
theorem ev_items {c : Cx} (l : List Str) : IterOK c (.strs l) (l.map fun x => .str x) := by
  have e : ((l.map IV.str).map PV.imm) = l.map fun x => PV.str x := by rw [List.map_map]; rfl
  rw [← e]; exact iter_list
theorem ev_itemsI {c : Cx} (l : List Int) : IterOK c (.ints l) (l.map fun x => .int x) := by
  have e : ((l.map IV.int).map PV.imm) = l.map fun x => PV.int x := by rw [List.map_map]; rfl
  rw [← e]; exact iter_list
theorem low_names : ∀ y ∈ namesL, (Txt.lower y).length ≤ 100000 := by decide +kernel
theorem prettyS_len {F : Nat} (h : F < 2 ^ 200) : (prettyS F).length ≤ 2000 := by
  have h1 := pfN_len 32 0 F [] (by omega) h (fun _ h => nomatch h)
  have h2 := StrLaws.join_length_le ", " (pfN 32 0 F [])
  have h3 := sum_len_le h1.1
  have h4 : (", " : Str).length = 2 := by rw [show (", " : Str) = Str.ofString ", " from rfl, PyProof.Rows.ofString_len]; decide
  have e : (prettyS F).length = (Str.join ", " (pfN 32 0 F [])).length := by show (Builtin.Str.glued ", " _).length = _; rw [StrLaws.glued_eq_join]
  rw [e]
  rw [h4] at h2
  have h5 := h1.2
  simp only [List.length_nil] at h5
  have h6 : (pfN 32 0 F []).length * 53 ≤ 33 * 53 := Nat.mul_le_mul_right _ (by omega)
  omega
theorem flags_lt {W : List Nat} {sh : Nat} (h1 : W.length ≤ 12) (h2 : sh < 22) : flagsN W sh < 2 ^ 40 := by
  have : ∀ (r : List Nat) (f : Nat), (∀ j ∈ r, j < 12) → f < 2 ^ 40 → r.foldl (flagStep W sh) f < 2 ^ 40 := by
    intro r
    induction r with
    | nil => intro f _ h; exact h
    | cons j r ih =>
      intro f hr hf
      have hj := hr j List.mem_cons_self
      refine ih _ (fun a ha => hr a (List.mem_cons_of_mem _ ha)) ?_
      unfold flagStep
      split
      · exact Nat.or_lt_two_pow hf (Nat.pow_lt_pow_right (by decide) (by omega))
      · exact hf
  exact this _ 0 (fun j hj => by have := List.mem_range.mp hj; omega) (by decide)
theorem descN_mem {W : List Nat} {p : Nat} (h : p ∈ descN W) : 1 ≤ p ∧ p < W.length := by
  obtain ⟨j, hj, rfl⟩ := List.mem_map.mp h
  have := List.mem_range.mp (List.mem_filter.mp hj).1
  omega
theorem descN_len (W : List Nat) : (descN W).length ≤ W.length := by
  unfold descN
  rw [List.length_map]
  have := List.length_filter_le (fun j => fallQ W (1 + j)) (List.range (W.length - 1))
  rw [List.length_range] at this
  omega
theorem toldN_len : ∀ (ds st row : List Nat), (toldN ds st row).length = row.length + ds.length
  | [], st, row => rfl
  | d :: ds, st, row => by
    unfold toldN
    rw [toldN_len ds]
    simp; omega
theorem toldN_mem {P : Nat → Prop} (h0 : P 0) : ∀ (ds st row : List Nat), (∀ a ∈ st, P a) → (∀ a ∈ row, P a) → ∀ a ∈ toldN ds st row, P a
  | [], st, row, _, h2 => h2
  | d :: ds, st, row, h1, h2 => by
    unfold toldN
    refine toldN_mem h0 ds _ _ (fun a ha => ?_) (fun a ha => ?_)
    · rcases List.mem_append.mp ha with h | h
      · exact h1 a (List.mem_of_mem_take h)
      · exact h1 a (List.mem_of_mem_drop h)
    · rcases List.mem_append.mp ha with h | h
      · exact h2 a h
      · rw [List.mem_singleton.mp h, List.getD_eq_getElem?_getD]
        cases e : st[d - 1]? with
        | none => exact h0
        | some v => exact h1 v (List.mem_of_getElem? e)
theorem names_ok : ∀ y ∈ namesL, PyData.strOk y = true := by decide +kernel
theorem names_l53 : ∀ y ∈ namesL, y.length ≤ 53 := by decide +kernel
section
variable {prog : Program} {w : World}
set_option maxHeartbeats 4000000 in
theorem law_rest {l : List Int} {cs : List Nat} {c4 : Nat} {ts W : List Nat} (H : LawFacts l cs c4 ts W) (A : Around) (L : Addr) (cdv : Value) (T : Nat) (hk : EnvOK (envC dLaw L cdv)) :
    ∃ ρ', EXs ⟨prog, w, A, envC dLaw L cdv, 2, topI, T⟩ (dLaw.body.drop 4) [("small", .list (smallL.map fun z => .strB z T)), ("names", .strs namesL), ("hidden", .str hiddenS), ("cells", .ints (cellsOf l))] .none (.ret (.bool true)) ρ' .none := by
  let c' : Cx := ⟨prog, w, A, envC dLaw L cdv, 2, topI, T⟩
  let sh := c4 % 100 % 22
  let Fl := flagsN W sh
  let sm : PV := .list (smallL.map fun z => .strB z T)
  let ρ5 : Rho := [("small", sm), ("names", .strs namesL), ("hidden", .str hiddenS), ("cells", .ints (cellsOf l))]
  have big : 10000 ≤ sizeLine := by decide
  have hcl : (cellsOf l).length = 5 := by rw [H.cells, List.length_map, List.length_append, H.cl]; rfl
  let ρ6 : Rho := ("typed", .str (wordS ts)) :: ("word", .str (wordS W)) :: ρ5
  have s4 : EX c' (nthS dLaw.body 4) ρ5 .none .next ρ6 .none := by
    have e : EV c' ρ5 (retE (nthS dLaw.body 4)) (.tup [.str (wordS ts), .str (wordS W)]) := by
      refine ev_to (ev_fn (fn_typed (l := cs) (by rw [H.cl]; exact Nat.le_refl 4)) (Nat.le_of_ble_eq_true rfl) hk rfl (by (repeat (first | exact List.Mem.head _ | refine List.Mem.tail _ ?_))) (by simp [topI]) rfl (evs_cons (ev_to (ev_item (ev_var (p := .ints (cellsOf l)) rfl hk rfl) (ev_slice epart_none (epart_some (ev_int (i := ((4 : Nat) : Int)))) epart_none) (item_list_slc (by decide) (by rw [List.length_map]; omega)) (by first | exact (fun _ _ _ _ => rfl) | exact letgo_str)) ?_) (evs_cons (ev_var (p := .str hiddenS) rfl hk rfl) evs_nil rfl) rfl) rfl rfl) ?_
      · rw [pick_to, H.cells, ← List.map_take, ← List.map_take]
        rw [show (cs ++ [c4]).take 4 = cs from List.take_left' H.cl]
      · rw [H.typed, H.word]
    exact ex_weakR (by repeat' (first | exact SubR.nil | refine SubR.cons rfl ?_)) (ex_tup2 e hk (.inl rfl) (.inr ⟨rfl, rfl⟩) rfl (by simp [Own.name]) (by simp [Own.name]) rfl rfl)
  have cell4 : ∀ {ρ : Rho} {p1 p2 p3 : Pos}, ρ.lookup (Str.ofString "cells") = some (PV.ints (cellsOf l)) → EV c' ρ (.Subscript (.Name "cells" p1) (.Constant (.int 4) 0 p2) p3) (.int (c4 : Int)) := fun {ρ p1 p2 p3} h => by
    refine ev_item (ev_var h hk rfl) (ev_int (i := ((4 : Nat) : Int))) (item_list (i := .int (c4 : Int)) ?_ (by rw [List.length_map]; omega)) (by first | exact (fun _ _ _ _ => rfl) | exact letgo_str)
    rw [H.cells, List.getElem?_map, List.getElem?_map, List.getElem?_append_right (by rw [H.cl]; exact Nat.le_refl 4), H.cl]; rfl
  let ρ7 : Rho := ("shift", .int (sh : Int)) :: ρ6
  have s5 : EX c' (nthS dLaw.body 5) ρ6 .none .next ρ7 .none :=
    ex_assign (ev_mod (b := 22) (ev_mod (b := 100) (cell4 rfl) (by decide)) (by decide)) hk (.inr ⟨rfl, rfl⟩) (by simp [Own.name]) rfl
  let S8 : Str → Rho := fun x => ("seen", .str x) :: ρ7
  have s6 : EX c' (nthS dLaw.body 6) ρ7 .none .next (S8 ⟨#[]⟩) .none :=
    ex_assign (ev_to ev_str (by rfl)) hk (.inl rfl) (by simp [Own.name]) rfl
  let body7 := forBody (nthS dLaw.body 7)
  have l7 : ∀ (r : List Nat) (x : Str), (∀ t ∈ r, t ∈ ts) → x.length + 100 * r.length ≤ 2000 → ForRun c' "sign" body7 (r.map fun a => .str (sgn a)) (S8 x) .none .next (S8 (seenN r x)) .none := by
    intro r
    induction r with
    | nil => intro x _ _; exact .nil
    | cons t r ih =>
      intro x hr hx
      simp only [List.length_cons] at hx
      have htm := hr t List.mem_cons_self
      have hf := H.fold t htm
      have hh := H.hid t htm
      let x' : Str := if (t : Int) ∈ b1L then x else x ++ foldB3 t
      have hx' : x'.length ≤ x.length + 100 := by
        show (if (t : Int) ∈ b1L then x else x ++ foldB3 t).length ≤ _
        split
        · omega
        · rw [str_len_add]; omega
      let r0 : Rho := ("sign", .str (sgn t)) :: S8 x
      let r1 : Rho := ("unseen", .bool (decide ((t : Int) ∈ b1L))) :: r0
      have b0 : EX c' (nthS body7 0) r0 .none .next r1 .none :=
        ex_assign (ev_fn (fn_b1 (n := t)) (Nat.le_of_ble_eq_true rfl) hk rfl (by (repeat (first | exact List.Mem.head _ | refine List.Mem.tail _ ?_))) (by simp [topI]) rfl (evs_cons (ev_var rfl hk rfl) evs_nil rfl) rfl rfl) hk (.inl rfl) (by simp [Own.name]) rfl
      have b1 : EB c' r1 (testOf (nthS body7 1)) false :=
        eb_to (eb_cmp (ev_var (p := .bool (decide ((t : Int) ∈ b1L))) rfl hk rfl) (ev_cmp (ev_var (p := .str (sgn t)) rfl hk rfl) (ev_var (p := .str hiddenS) rfl hk rfl) cmp_in_str rfl) cmp_isNot_bool rfl) (by rw [hh]; simp)
      have b2 : EX c' (nthS body7 2) r1 .none .next (S8 x') .none := by
        refine ex_if (eb_not (eb_ev (ev_var (p := .bool (decide ((t : Int) ∈ b1L))) rfl hk rfl) true_bool)) (fun h => ?_) (fun h => ?_)
        · have hn : ¬ (t : Int) ∈ b1L := by simpa using h
          have ex' : x' = x ++ foldB3 t := if_neg hn
          rw [ex']
          exact exs_cons (ex_weakR (by repeat' (first | exact SubR.nil | refine SubR.cons rfl ?_)) (ex_assign (ev_fn (fn_concat_str (x := x) (y := foldB3 t) (by omega)) (Nat.le_of_ble_eq_true rfl) hk rfl (by (repeat (first | exact List.Mem.head _ | refine List.Mem.tail _ ?_))) (by simp [topI]) rfl (evs_cons (ev_var (p := .str x) rfl hk rfl) (evs_cons (ev_fn (fn_b3 (n := t) (Nat.le_trans hf.1 (by decide))) (Nat.le_of_ble_eq_true rfl) hk rfl (by (repeat (first | exact List.Mem.head _ | refine List.Mem.tail _ ?_))) (by simp [topI]) rfl (evs_cons (ev_var (p := .str (sgn t)) rfl hk rfl) evs_nil rfl) rfl rfl) evs_nil rfl) rfl) rfl rfl) hk (.inl rfl) (by simp [Own.name]) rfl)) exs_nil
        · have hn : (t : Int) ∈ b1L := by simpa using h
          have ex' : x' = x := if_pos hn
          rw [ex']
          exact exs_weakR (by repeat' (first | exact SubR.nil | refine SubR.cons rfl ?_)) exs_nil
      exact .next (by simp [Own.name]) (exs_cons b0 (exs_cons (ex_if_false b1 exs_nil) (exs_cons b2 exs_nil))) (ih x' (fun a ha => hr a (List.mem_cons_of_mem _ ha)) (by omega))
  have s7 : EX c' (nthS dLaw.body 7) (S8 ⟨#[]⟩) .none .next (S8 (wordS W)) .none := by
    have := l7 ts ⟨#[]⟩ (fun _ h => h) (by have := H.tl; show 0 + _ ≤ _; omega)
    rw [H.seen] at this
    refine ex_for (ev_var (p := .str (wordS ts)) rfl hk rfl) ?_ this hk (.inl rfl) (.inl ⟨rfl, exs_nil⟩) fun _ => rfl
    have e : ((chars (wordS ts)).map PV.str) = ts.map fun a => PV.str (sgn a) := by
      show ((ts.toArray.toList.map _).map _) = _
      rw [List.toList_toArray, List.map_map]; rfl
    rw [← e]; exact iter_str
  have s8 : EB c' (S8 (wordS W)) (testOf (nthS dLaw.body 8)) false :=
    eb_to (eb_not (eb_ev (ev_fn (fn_eq_str (x := wordS W) (y := wordS W)) (Nat.le_of_ble_eq_true rfl) hk rfl (by (repeat (first | exact List.Mem.head _ | refine List.Mem.tail _ ?_))) (by simp [topI]) rfl (evs_cons (ev_var rfl hk rfl) (evs_cons (ev_var rfl hk rfl) evs_nil rfl) rfl) rfl rfl) true_bool)) (by unfold eqS; simp)
  let S9 : Nat → Rho := fun f => ("flags", .int (f : Int)) :: S8 (wordS W)
  have s9 : EX c' (nthS dLaw.body 9) (S8 (wordS W)) .none .next (S9 0) .none :=
    ex_assign (ev_int (i := ((0 : Nat) : Int))) hk (.inl rfl) (by simp [Own.name]) rfl
  have hWl := wordS_len W
  have w1 := H.w1
  have w12 := H.w12
  have hsh : sh < 22 := Nat.mod_lt _ (by decide)
  have wAt : ∀ {env : Env} {ρ : Rho} {v e : Expr} {i : Nat} {p : Pos}, EV { c' with env := env } ρ v (.str (wordS W)) → EV { c' with env := env } ρ e (.int (i : Int)) → i < W.length → EV { c' with env := env } ρ (.Subscript v e p) (.str (sgn (W.getD i 0))) := fun {env ρ v e i p} h1 h2 h3 => by
    refine ev_plain (ev_item h1 h2 (item_str (cp := W.getD i 0) ?_ (by omega)) (by first | exact (fun _ _ _ _ => rfl) | exact letgo_str))
    show W.toArray[i]? = _
    rw [List.getElem?_toArray, List.getD_eq_getElem?_getD, List.getElem?_eq_getElem h3]; rfl
  have p1E : ∀ {env : Env} {ρ : Rho} {x : Str} {j : Nat} {q1 q2 q3 : Pos}, EnvOK env → ρ.lookup x = some (.int ((1 + j : Nat) : Int)) → (x == ("__debug__" : Str)) = false → EV { c' with env := env } ρ (.BinOp (.Name x q1) .Sub (.Constant (.int 1) 0 q2) q3) (.int ((1 + j - 1 : Nat) : Int)) := fun {env ρ x j q1 q2 q3} h1 h2 h3 =>
    ev_to (ev_bin (ev_var h2 h1 h3) ev_int bin_sub_int) (by show PV.int _ = PV.int _; congr 1; omega)
  let body10 := forBody (nthS dLaw.body 10)
  have t10 : ∀ (j f : Nat), j < W.length - 1 → EB c' (("p", .int ((1 + j : Nat) : Int)) :: S9 f) (testOf (nthS body10 0)) (fallQ W (1 + j)) := by
    intro j f hj
    exact eb_to (eb_ev (ev_fn fn_gt_str (Nat.le_of_ble_eq_true rfl) hk rfl (by (repeat (first | exact List.Mem.head _ | refine List.Mem.tail _ ?_))) (by simp [topI]) rfl (evs_cons (wAt (env := c'.env) (ev_var (p := .str (wordS W)) rfl hk rfl) (p1E hk rfl rfl) (by omega)) (evs_cons (wAt (env := c'.env) (ev_var (p := .str (wordS W)) rfl hk rfl) (ev_var (p := .int ((1 + j : Nat) : Int)) rfl hk rfl) (by omega)) evs_nil rfl) rfl) rfl rfl) true_bool) (ltS_sgn _ _)
  have l10 : ∀ (r : List Nat) (f : Nat), (∀ j ∈ r, j < W.length - 1) → ForRun c' "p" body10 (r.map fun j => .int ((1 + j : Nat) : Int)) (S9 f) .none .next (S9 (r.foldl (flagStep W sh) f)) .none := by
    intro r
    induction r with
    | nil => intro f _; exact .nil
    | cons j r ih =>
      intro f hr
      have hj := hr j List.mem_cons_self
      rw [List.foldl_cons]
      refine .next (by simp [Own.name]) (exs_cons ?_ exs_nil) (ih (flagStep W sh f j) fun a ha => hr a (List.mem_cons_of_mem _ ha))
      refine ex_if (t10 j f hj) (fun h => ?_) (fun h => ?_)
      · have e : flagStep W sh f j = f ||| 2 ^ (1 + j - 1 + sh) := if_pos h
        rw [e]
        have shl : EV c' (("p", .int ((1 + j : Nat) : Int)) :: S9 f) (match retE (nthS (forBody (nthS body10 0)) 0) with | .Call _ [_, e] _ _ => e | e => e) (.int ((2 ^ (1 + j - 1 + sh) : Nat) : Int)) := by
          refine ev_to (ev_fn (fn_shl (x := 1) (y := ((1 + j - 1 + sh : Nat) : Int)) (by omega) ?_) (Nat.le_of_ble_eq_true rfl) hk rfl (by (repeat (first | exact List.Mem.head _ | refine List.Mem.tail _ ?_))) (by simp [topI]) rfl (evs_cons ev_int (evs_cons (ev_to (ev_bin (p1E (env := c'.env) hk rfl rfl) (ev_var (p := .int (sh : Int)) rfl hk rfl) bin_add_int) ?_) evs_nil rfl) rfl) rfl rfl) ?_
          · have : (Builtin.Int.intBits 1 : Int) = 1 := by decide +kernel
            rw [this]; omega
          · show PV.int _ = PV.int _; congr 1
          · show PV.int _ = PV.int _
            congr 1
            rw [Int.one_mul, Int.toNat_natCast, Int.natCast_pow]; rfl
        exact exs_cons (ex_weakR (by repeat' (first | exact SubR.nil | refine SubR.cons rfl ?_)) (ex_assign (ev_to (ev_fn fn_or (Nat.le_of_ble_eq_true rfl) hk rfl (by (repeat (first | exact List.Mem.head _ | refine List.Mem.tail _ ?_))) (by simp [topI]) rfl (evs_cons (ev_var (p := .int (f : Int)) rfl hk rfl) (evs_cons shl evs_nil rfl) rfl) rfl rfl) (by rw [bitOr_nat])) hk (.inl rfl) (by simp [Own.name]) rfl)) exs_nil
      · have e : flagStep W sh f j = f := if_neg (by rw [h]; exact Bool.false_ne_true)
        rw [e]
        exact exs_weakR (by repeat' (first | exact SubR.nil | refine SubR.cons rfl ?_)) exs_nil
  have lenE : ∀ {ρ : Rho} {x : Str} {q1 q2 q3 : Pos}, ρ.lookup x = some (.str (wordS W)) → (x == ("__debug__" : Str)) = false → EV c' ρ (.Call (.Name "len" q1) [.Name x q2] [] q3) (.int (W.length : Int)) := fun {ρ x q1 q2 q3} h1 h2 =>
    ev_to (ev_lenS (ev_var h1 hk h2) hk rfl (by omega) rfl rfl rfl) (by rw [hWl])
  have rng : IterOK c' (.rng 1 (W.length : Int)) ((List.range (W.length - 1)).map fun j => .int (((1 + j : Nat)) : Int)) := by
    have := range_items (c := c') (a := 1) (n := W.length - 1) (by omega)
    rw [show 1 + (W.length - 1) = W.length by omega] at this
    exact this
  have s10 : EX c' (nthS dLaw.body 10) (S9 0) .none .next (S9 Fl) .none :=
    ex_for (ev_call (ev_blt (u := .type "range") hk rfl (by (repeat (first | exact List.Mem.head _ | refine List.Mem.tail _ ?_))) (by (repeat (first | exact List.Mem.head _ | refine List.Mem.tail _ ?_))) rfl) (evs_cons ev_int (evs_cons (lenE rfl rfl) evs_nil rfl) rfl) call_range2 (.inr (.inl ⟨_, rfl⟩)) rfl) rng (l10 _ 0 fun j hj => List.mem_range.mp hj) hk (.inl rfl) (.inl ⟨rfl, exs_nil⟩) fun _ => rfl
  have hF40 : Fl < 2 ^ 40 := flags_lt w12 hsh
  have hF : Fl < 2 ^ 200 := Nat.lt_trans hF40 (by decide)
  have hpl := prettyS_len hF
  let ρ11 : Rho := ("told", .str (prettyS Fl)) :: S9 Fl
  have s11 : EX c' (nthS dLaw.body 11) (S9 Fl) .none .next ρ11 .none :=
    ex_assign (ev_fn (fn_flags hF) (Nat.le_of_ble_eq_true rfl) hk rfl (by (repeat (first | exact List.Mem.head _ | refine List.Mem.tail _ ?_))) (by simp [topI]) rfl (evs_cons (ev_var rfl hk rfl) evs_nil rfl) rfl rfl) hk (.inl rfl) (by simp [Own.name]) rfl
  let ρ12 : Rho := ("places", .ints []) :: ρ11
  have s12 : EX c' (nthS dLaw.body 12) ρ11 .none .next ρ12 .none :=
    ex_assign (ev_list (l := []) evs_nil (by decide)) hk (.inl rfl) (by simp [Own.name]) rfl
  let PZ : List Int := (descN W).map Int.ofNat
  let ρ13 : Rho := ("places", .ints PZ) :: ρ11
  have s13 : EX c' (nthS dLaw.body 13) ρ12 .none .next ρ13 .none := by
    refine ex_if (eb_cmp (ev_var (p := .int (Fl : Int)) rfl hk rfl) (ev_int (i := 0)) cmp_ne_int rfl) (fun h => ?_) (fun h => ?_)
    · have hF0 : Fl ≠ 0 := by
        intro e; rw [e] at h; exact absurd h (by decide)
      have hPZ : ((partsL Fl).map fun y => ((indexS y smallL : Nat) : Int) - ((sh : Nat) : Int) + 1) = PZ := by
        exact Eq.trans (if_neg hF0).symm H.places
      have hparts : (partsL Fl).length ≤ 12 := by
        have := congrArg List.length hPZ
        rw [List.length_map, List.length_map] at this
        have := descN_len W
        omega
      let comp1 := match retE (nthS (forBody (nthS dLaw.body 13)) 0) with | .Call _ [e] _ _ => e | e => e
      have E1 : EV c' ρ12 comp1 (.strs ((prettyS Fl).cps.toList.map foldB3)) := by
        refine ev_to (ev_comp (clOf (scopeOf comp1) c'.env) [] (res := (prettyS Fl).cps.toList.map fun n => .str (foldB3 n)) rfl (ev_var (p := .str (prettyS Fl)) rfl hk rfl) (items := (prettyS Fl).cps.toList.map fun n => .str (sgn n)) ?_ hk (fun C => ?_) (fun C => rule_elt) (by rw [List.length_map, Array.length_toList]; show (prettyS Fl).length ≤ _; omega) rfl (by decide) (fun _ => rfl) (by decide) rfl rfl rfl SubR.nil (fun _ => trivial)) ?_
        · have := iter_str (c := c') (x := prettyS Fl)
          unfold chars at this
          rw [List.map_map] at this
          exact this
        · refine run_map _ fun n hn => ?_
          have hk1 : EnvOK (compEnvC (scopeOf comp1) (clOf (scopeOf comp1) c'.env) C c'.env) := ⟨rfl, rfl, rfl⟩
          exact ev_fn (fn_b3 (n := n) (Nat.le_trans (H.pfold n hn).1 (by decide))) (Nat.le_of_ble_eq_true rfl) hk1 rfl (by (repeat (first | exact List.Mem.head _ | refine List.Mem.tail _ ?_))) (by simp [topI]) rfl (evs_cons (ev_var (p := .str (sgn n)) rfl hk1 rfl) evs_nil rfl) rfl rfl
        · show PV.list _ = PV.list _
          rw [List.map_map]; rfl
      have hsum : (((prettyS Fl).cps.toList.map foldB3).map (·.length)).sum ≤ 20000 := by
        have := sum_le (f := fun x : Str => x.length) (b := 10) (l := (prettyS Fl).cps.toList.map foldB3) fun x hx => by
          obtain ⟨n, hn, rfl⟩ := List.mem_map.mp hx
          exact (H.pfold n hn).2
        rw [List.length_map, Array.length_toList] at this
        have h2 : (prettyS Fl).cps.size * 10 ≤ 2000 * 10 := Nat.mul_le_mul_right _ hpl
        omega
      have h0 : ("" : Str).length = 0 := rfl
      have hfl : (foldedS Fl).length ≤ 20000 := by
        have h2 := StrLaws.join_length_le "" ((prettyS Fl).cps.toList.map foldB3)
        have e : (foldedS Fl).length = (Str.join "" ((prettyS Fl).cps.toList.map foldB3)).length := by show (Builtin.Str.glued "" _).length = _; rw [StrLaws.glued_eq_join]
        rw [h0, Nat.mul_zero] at h2
        omega
      let ρ13a : Rho := ("folded", .imm (.strN (foldedS Fl) T)) :: ρ12
      have f0 : EX c' (nthS (forBody (nthS dLaw.body 13)) 0) ρ12 .none .next ρ13a .none := by
        refine ex_assign (ev_meth ev_str (evs_cons E1 evs_nil rfl) (meth_join_new ?_ ?_) rfl (by decide) rfl rfl) hk (.inl rfl) (by simp [Own.name]) rfl
        · show _ + _ * ("" : Str).length ≤ _
          rw [h0]; omega
        · rw [List.length_map, Array.length_toList]; exact H.plen
      let e2 := retE (nthS (forBody (nthS dLaw.body 13)) 1)
      have f1 : EX c' (nthS (forBody (nthS dLaw.body 13)) 1) ρ13a .none .next (("places", .ints PZ) :: ρ13a) .none := by
        have eP : PV.ints PZ = .list ((partsL Fl).map fun y => .int (((indexS y smallL : Nat) : Int) - ((sh : Nat) : Int) + 1)) := by
          rw [← hPZ]; show PV.list _ = PV.list _; rw [List.map_map]; rfl
        rw [eP]
        refine ex_assign_comp (clOf (scopeOf e2) c'.env) [("small", sm), ("shift", .int (sh : Int))] (p := .list ((partsL Fl).map fun z => .strN z T)) (items := (partsL Fl).map fun y => .imm (.strN y T)) (act := fun cenv => actElt (eltOf e2) cenv) rfl ?_ ?_ hk (fun C => ?_) (fun C => rule_elt) (by rw [List.length_map]; omega) rfl (by decide) (fun _ => rfl) (by decide) rfl rfl rfl (by repeat' (first | exact SubR.nil | refine SubR.cons rfl ?_)) (fun _ => ⟨⟨rfl, rfl, rfl⟩, ⟨rfl, rfl, rfl⟩, trivial⟩) rfl (.inl rfl) (by simp [Own.name])
        · exact ev_meth (ev_var (p := .imm (.strN (foldedS Fl) T)) rfl hk rfl) (evs_cons (ev_to ev_str (show PV.str _ = .str commaS by rfl)) evs_nil rfl) (meth_split_new (x := foldedS Fl) (by rfl) (by omega) (by show (partsL Fl).length ≤ _; omega)) rfl (by decide) rfl rfl
        · have := iter_list (c := c') (l := (partsL Fl).map fun z => IV.strN z T)
          rw [List.map_map] at this
          exact this
        · refine run_map _ fun y hy => ?_
          have hk1 : EnvOK (compEnvC (scopeOf e2) (clOf (scopeOf e2) c'.env) C c'.env) := ⟨rfl, rfl, rfl⟩
          exact ev_bin (ev_bin (ev_fn (fn_index (l := smallL) (y := y) (T := T) (H.parts hF0 y hy)) (Nat.le_of_ble_eq_true rfl) hk1 rfl (by (repeat (first | exact List.Mem.head _ | refine List.Mem.tail _ ?_))) (by simp [topI]) rfl (evs_cons (ev_var (p := sm) rfl hk1 rfl) (evs_cons (ev_var (p := .imm (.strN y T)) rfl hk1 rfl) evs_nil rfl) rfl) rfl rfl) (ev_var (p := .int (sh : Int)) rfl hk1 rfl) bin_sub_int) ev_int bin_add_int
      exact exs_cons f0 (exs_cons (ex_weakR (by repeat' (first | exact SubR.nil | refine SubR.cons rfl ?_)) f1) exs_nil)
    · have hF0 : Fl = 0 := by
        have : ((Fl : Int) != 0) = false := h
        have := bne_eq_false_iff_eq.mp this
        omega
      have hPZ : [] = PZ := by
        exact Eq.trans (if_pos hF0).symm H.places
      have e : ρ13 = ρ12 := by show ((Str.ofString "places", PV.ints PZ) :: ρ11 : Rho) = _; rw [← hPZ]
      rw [e]
      exact exs_nil
  have s14 : EB c' ρ13 (testOf (nthS dLaw.body 14)) false := by
    let comp := match testOf (nthS dLaw.body 14) with | .Compare _ _ [e] _ => e | e => e
    have E : EV c' ρ13 comp (.ints PZ) := by
      refine ev_to (ev_comp (clOf (scopeOf comp) c'.env) [("word", .str (wordS W))] (act := fun cenv => actIf (match comp with | .ListComp _ [⟨_, _, [t], _⟩] _ _ => t | e => e) (eltOf comp) cenv) (res := (((List.range (W.length - 1)).filter fun j => fallQ W (1 + j)).map fun j => .int ((1 + j : Nat) : Int))) rfl (ev_call (ev_blt (u := .type "range") hk rfl (by (repeat (first | exact List.Mem.head _ | refine List.Mem.tail _ ?_))) (by (repeat (first | exact List.Mem.head _ | refine List.Mem.tail _ ?_))) rfl) (evs_cons ev_int (evs_cons (lenE rfl rfl) evs_nil rfl) rfl) call_range2 (.inr (.inl ⟨_, rfl⟩)) rfl) rng hk (fun C => ?_) (fun C => rule_if) ?_ rfl (by decide) (fun _ => rfl) (by decide) rfl rfl rfl (by repeat' (first | exact SubR.nil | refine SubR.cons rfl ?_)) (fun _ => ⟨⟨rfl, rfl, rfl⟩, trivial⟩)) ?_
      · have hk1 : EnvOK (compEnvC (scopeOf comp) (clOf (scopeOf comp) c'.env) C c'.env) := ⟨rfl, rfl, rfl⟩
        refine run_filter (f := fun j => .int ((1 + j : Nat) : Int)) (q := fun j => fallQ W (1 + j)) (g := fun j => .int ((1 + j : Nat) : Int)) (List.range (W.length - 1)) (fun j hj => ?_) fun j hj _ => ev_var rfl hk1 rfl
        have hj := List.mem_range.mp hj
        exact eb_to (eb_cmp (wAt (ev_var (p := .str (wordS W)) rfl hk1 rfl) (p1E hk1 rfl rfl) (by omega)) (wAt (ev_var (p := .str (wordS W)) rfl hk1 rfl) (ev_var (p := .int ((1 + j : Nat) : Int)) rfl hk1 rfl) (by omega)) cmp_gt_str rfl) (ltS_sgn _ _)
      · have := descN_len W
        unfold descN at this
        rw [List.length_map] at this ⊢
        omega
      · show PV.list _ = PV.list _
        congr 1
        show _ = ((descN W).map Int.ofNat).map IV.int
        unfold descN
        rw [List.map_map, List.map_map]; rfl
    exact eb_to (eb_cmp (ev_var (p := .ints PZ) rfl hk rfl) E cmp_ne_ints rfl) (by simp)
  let n := (rowOf W).length
  have hn : n ≤ 12 := by show (rowOf W).length ≤ 12; rw [H.rlen]; exact w12
  have hdl : (dotsOf W).length = n := sentN_len _ _
  have hdm : ∀ d ∈ dotsOf W, 1 ≤ d ∧ d ≤ n := sentN_le _ _
  have hrow0 : ∀ a ∈ W, a < 0x110000 := H.wc
  let ρ15 : Rho := ("dots", .strs ((dotsOf W).map dotsS)) :: ρ13
  have s15 : EX c' (nthS dLaw.body 15) ρ13 .none .next ρ15 .none :=
    ex_assign (ev_fn (fn_sent (row := rowOf W) (t := c4 / 10000) hn H.sent) (Nat.le_of_ble_eq_true rfl) hk rfl (by (repeat (first | exact List.Mem.head _ | refine List.Mem.tail _ ?_))) (by simp [topI]) rfl (evs_cons (ev_fn (fn_moved (l := W) (by omega)) (Nat.le_of_ble_eq_true rfl) hk rfl (by (repeat (first | exact List.Mem.head _ | refine List.Mem.tail _ ?_))) (by simp [topI]) rfl (evs_cons (ev_var (p := .str (wordS W)) rfl hk rfl) evs_nil rfl) rfl rfl) (evs_cons (ev_fdiv (b := 10000) (cell4 rfl) (by decide) (pylong (by simp))) evs_nil rfl) rfl) rfl rfl) hk (.inl rfl) (by simp [Own.name]) rfl
  have hsl : (sortN W).length = W.length := sortN_len W
  have s16 : EB c' ρ15 (testOf (nthS dLaw.body 16)) false := by
    have hs : ∀ {p1 p2 p3 : Pos}, EV c' ρ15 (.Call (.Name "sorted" p1) [.Name "word" p2] [] p3) (.strs ((sortN W).map sgn)) := fun {_ _ _} =>
      ev_to (ev_call (ev_blt (u := .builtin "sorted") hk rfl (by (repeat (first | exact List.Mem.head _ | refine List.Mem.tail _ ?_))) (by (repeat (first | exact List.Mem.head _ | refine List.Mem.tail _ ?_))) rfl) (evs_cons (ev_var (p := .str (wordS W)) rfl hk rfl) evs_nil rfl) (call_sorted (by omega)) (.inl ⟨_, rfl⟩) rfl) (by show PV.strs ((sortN W.toArray.toList).map sgn) = _; rw [List.toList_toArray])
    have tl := toldN_len (dotsOf W) (sortN W) []
    refine eb_to (eb_cmp (ev_fn (fn_back (l := toldN (dotsOf W) (sortN W) []) (by rw [tl, hdl]; simp; omega) (toldN_mem (by decide) _ _ _ (fun a ha => hrow0 a ((sortN_perm W).mem_iff.mp ha)) (fun _ h => nomatch h))) (Nat.le_of_ble_eq_true rfl) hk rfl (by (repeat (first | exact List.Mem.head _ | refine List.Mem.tail _ ?_))) (by simp [topI]) rfl (evs_cons (ev_fn (fn_told (ds := dotsOf W) (st := sortN W) H.okd (by omega) (by omega)) (Nat.le_of_ble_eq_true rfl) hk rfl (by (repeat (first | exact List.Mem.head _ | refine List.Mem.tail _ ?_))) (by simp [topI]) rfl (evs_cons (ev_var (p := .strs ((dotsOf W).map dotsS)) rfl hk rfl) (evs_cons hs evs_nil rfl) rfl) rfl rfl) evs_nil rfl) rfl rfl) (ev_var (p := .str (wordS W)) rfl hk rfl) cmp_ne_str rfl) ?_
    rw [H.back]; simp
  let ρ17 : Int → Rho := fun i => ("laid", .int i) :: ρ15
  have s17 : EX c' (nthS dLaw.body 17) ρ15 .none .next (ρ17 (W.length : Int)) .none :=
    ex_assign (lenE rfl rfl) hk (.inl rfl) (by simp [Own.name]) rfl
  have l18 : ∀ (r : List Int) (i : Int), ForRun c' "place" (forBody (nthS dLaw.body 18)) (r.map fun x => .int x) (ρ17 i) .none .next (ρ17 (i + r.sum)) .none := by
    intro r
    induction r with
    | nil => intro i; rw [List.sum_nil, Int.add_zero]; exact .nil
    | cons x r ih =>
      intro i
      rw [List.sum_cons, ← Int.add_assoc]
      exact .next (by simp [Own.name]) (exs_cons (ex_weakR (by repeat' (first | exact SubR.nil | refine SubR.cons rfl ?_)) (ex_assign (ev_fn (fn_add (x := i) (y := x)) (Nat.le_of_ble_eq_true rfl) hk rfl (by (repeat (first | exact List.Mem.head _ | refine List.Mem.tail _ ?_))) (by simp [topI]) rfl (evs_cons (ev_var rfl hk rfl) (evs_cons (ev_var rfl hk rfl) evs_nil rfl) rfl) rfl rfl) hk (.inl rfl) (by simp [Own.name]) rfl)) exs_nil) (ih (i + x))
  have s18 : EX c' (nthS dLaw.body 18) (ρ17 (W.length : Int)) .none .next (ρ17 ((W.length : Int) + PZ.sum)) .none :=
    ex_for (ev_var (p := .ints PZ) rfl hk rfl) (ev_itemsI PZ) (l18 PZ _) hk (.inl rfl) (.inl ⟨rfl, exs_nil⟩) fun _ => rfl
  let ρ18 := ρ17 ((W.length : Int) + PZ.sum)
  have s19 : EB c' ρ18 (testOf (nthS dLaw.body 19)) false := by
    refine eb_to (eb_cmp (ev_fn (fn_count (x := Txt.join crlfS ((dotsOf W).map dotsS)) (y := ⟨#[46]⟩)) (Nat.le_of_ble_eq_true rfl) hk rfl (by (repeat (first | exact List.Mem.head _ | refine List.Mem.tail _ ?_))) (by simp [topI]) rfl (evs_cons (ev_meth (ev_to ev_str (show PV.str _ = .str crlfS by rfl)) (evs_cons (ev_var (p := .strs ((dotsOf W).map dotsS)) rfl hk rfl) evs_nil rfl) (meth_join ?_) rfl (by decide) rfl rfl) (evs_cons (ev_to ev_strC (show PV.imm (.strC _) = .imm (.strC ⟨#[46]⟩) by rfl)) evs_nil rfl) rfl) rfl rfl) (ev_var (p := .int ((W.length : Int) + PZ.sum)) rfl hk rfl) cmp_ne_int rfl) ?_
    · have := sum_le (f := fun x : Str => x.length) (b := 12) (l := (dotsOf W).map dotsS) fun x hx => by
        obtain ⟨d, hd, rfl⟩ := List.mem_map.mp hx
        show (dotsS d).length ≤ 12
        rw [dotsS_len]; have := (hdm d hd).2; omega
      rw [List.length_map, hdl] at this ⊢
      have h2 : crlfS.length = 2 := rfl
      rw [h2]; omega
    · rw [H.count]; exact bne_self_eq_false _
  let e20 := retE (nthS dLaw.body 20)
  let ρ20 : Rho := ("own", .strs (ownL W sh)) :: ρ18
  have hdlen := descN_len W
  have s20 : EX c' (nthS dLaw.body 20) ρ18 .none .next ρ20 .none := by
    have eO : PV.strs (ownL W sh) = .list ((descN W).map fun p => .str (namesL.getD (p - 1 + sh) ⟨#[]⟩)) := by
      show PV.list _ = PV.list _; unfold ownL; rw [List.map_map]; rfl
    show EX c' _ ρ18 .none .next (("own", PV.strs (ownL W sh)) :: ρ18) .none
    rw [eO]
    refine ex_assign_comp (clOf (scopeOf e20) c'.env) [("names", .strs namesL), ("shift", .int (sh : Int))] (p := .ints PZ) (items := (descN W).map fun (p : Nat) => .int (p : Int)) (act := fun cenv => actElt (eltOf e20) cenv) rfl (ev_var rfl hk rfl) ?_ hk (fun C => ?_) (fun C => rule_elt) (by rw [List.length_map]; omega) rfl (by decide) (fun _ => rfl) (by decide) rfl rfl rfl (by repeat' (first | exact SubR.nil | refine SubR.cons rfl ?_)) (fun _ => ⟨⟨rfl, rfl, rfl⟩, ⟨rfl, rfl, rfl⟩, trivial⟩) rfl (.inl rfl) (by simp [Own.name])
    · have := ev_itemsI (c := c') PZ
      rw [show (PZ.map fun x => PV.int x) = (descN W).map fun (p : Nat) => PV.int (p : Int) from by show List.map _ (List.map _ _) = _; rw [List.map_map]; rfl] at this
      exact this
    · refine run_map _ fun p hp => ?_
      have hk1 : EnvOK (compEnvC (scopeOf e20) (clOf (scopeOf e20) c'.env) C c'.env) := ⟨rfl, rfl, rfl⟩
      have hp := descN_mem hp
      have hnl : namesL.length = 32 := by decide +kernel
      refine ev_at (ev_var (p := .strs namesL) rfl hk1 rfl) (ev_to (ev_bin (ev_bin (ev_var (p := .int (p : Int)) rfl hk1 rfl) ev_int bin_sub_int) (ev_var (p := .int (sh : Int)) rfl hk1 rfl) bin_add_int) ?_) (by rw [hnl]; omega) (by rw [hnl]; decide) (by first | exact (fun _ _ _ _ => rfl) | exact letgo_str)
      show PV.int _ = PV.int _
      congr 1
      omega
  have hown : ∀ y ∈ ownL W sh, PyData.strOk y = true ∧ y.length ≤ 53 := fun y hy => by
    obtain ⟨p, hp, rfl⟩ := List.mem_map.mp hy
    have hp := descN_mem hp
    have hnl : namesL.length = 32 := by decide +kernel
    have hlt : p - 1 + sh < namesL.length := by rw [hnl]; omega
    have hm : namesL.getD (p - 1 + sh) ⟨#[]⟩ ∈ namesL := by
      rw [List.getD_eq_getElem?_getD, List.getElem?_eq_getElem hlt]; exact List.getElem_mem hlt
    exact ⟨names_ok _ hm, names_l53 _ hm⟩
  have hol : (ownL W sh).length ≤ 12 := by unfold ownL; rw [List.length_map]; omega
  have hc2 : commaS.length = 2 := by show (Str.ofString ", ").length = 2; rw [PyProof.Rows.ofString_len]; decide
  have ownE : ∀ {p : Pos}, EV c' ρ20 (.Name "own" p) (.strs (ownL W sh)) := ev_var rfl hk rfl
  have commaE : ∀ {p : Pos}, EV c' ρ20 (.Constant (.str ", ") 0 p) (.str commaS) := ev_str
  have s21 : EB c' ρ20 (testOf (nthS dLaw.body 21)) false := by
    have hif : EV c' ρ20 (match testOf (nthS dLaw.body 21) with | .Compare _ _ [e] _ => e | e => e) (.str (prettyS Fl)) := by
      refine ev_ifexp (eb_cmp ownE (ev_list (l := []) evs_nil (by decide)) (cmp_ne_strs (zs := []) (fun y hy => (hown y hy).1) (fun _ h => nomatch h)) rfl) (fun h => ?_) (fun h => ?_)
      · have : ownL W sh ≠ [] := by simpa using h
        have ht : prettyS Fl = Txt.join commaS (ownL W sh) := H.told.trans (if_neg this)
        rw [ht]
        refine ev_meth commaE (evs_cons ownE evs_nil rfl) (meth_join ?_) rfl (by decide) rfl rfl
        have h1 := sum_len_le fun y hy => (hown y hy).2
        have h2 : (ownL W sh).length * 53 ≤ 12 * 53 := Nat.mul_le_mul_right _ hol
        rw [hc2]; omega
      · have : ownL W sh = [] := by simpa using h
        have ht : prettyS Fl = ("0x0" : Str) := H.told.trans (if_pos this)
        rw [ht]
        exact ev_str
    exact eb_to (eb_cmp (ev_var (p := .str (prettyS Fl)) rfl hk rfl) hif cmp_ne_str rfl) (by simp)
  let far := 32 + c4 / 100 % 100
  have hfar : far ≤ 131 := by
    have : c4 / 100 % 100 < 100 := Nat.mod_lt _ (by decide)
    show 32 + c4 / 100 % 100 ≤ 131; omega
  let ρ22 : Rho := ("far", .int (far : Int)) :: ρ20
  have s22 : EX c' (nthS dLaw.body 22) ρ20 .none .next ρ22 .none :=
    ex_assign (ev_to (ev_bin (ev_int (i := 32)) (ev_mod (b := 100) (ev_fdiv (b := 100) (cell4 rfl) (by decide) (pylong (by simp))) (by decide)) bin_add_int) (by show PV.int _ = PV.int _; congr 1)) hk (.inl rfl) (by simp [Own.name]) rfl
  have h3 : 3 * 2 ^ far < 2 ^ 140 := by
    have : 2 ^ far ≤ 2 ^ 131 := Nat.pow_le_pow_right (by decide) hfar
    have e : (2 : Nat) ^ 140 = 512 * 2 ^ 131 := by decide
    rw [e]; omega
  have hor : ((Fl ||| 3 * 2 ^ far) ||| Fl) < 2 ^ 140 := Nat.or_lt_two_pow (Nat.or_lt_two_pow (Nat.lt_trans hF40 (by decide)) h3) (Nat.lt_trans hF40 (by decide))
  have s23 : EV c' ρ22 (retE (nthS dLaw.body 23)) (.bool true) := by
    have flE : ∀ {p : Pos}, EV c' ρ22 (.Name "flags" p) (.int (Fl : Int)) := ev_var rfl hk rfl
    have faE : ∀ {p : Pos}, EV c' ρ22 (.Name "far" p) (.int (far : Int)) := ev_var rfl hk rfl
    have shl : ∀ {p1 p2 p3 p4 : Pos}, EV c' ρ22 (.Call (.Name "lshift" p1) [.Constant (.int 3) 0 p2, .Name "far" p3] [] p4) (.int ((3 * 2 ^ far : Nat) : Int)) := fun {_ _ _ _} => by
      refine ev_to (ev_fn (fn_shl (x := 3) (y := (far : Int)) (by omega) ?_) (Nat.le_of_ble_eq_true rfl) hk rfl (by (repeat (first | exact List.Mem.head _ | refine List.Mem.tail _ ?_))) (by simp [topI]) rfl (evs_cons ev_int (evs_cons faE evs_nil rfl) rfl) rfl rfl) ?_
      · have : (Builtin.Int.intBits 3 : Int) = 2 := by decide +kernel
        rw [this]; omega
      · show PV.int _ = PV.int _
        congr 1
    have or1 : ∀ {e1 e2 : Expr} {p1 p2 : Pos} {a b : Nat}, EV c' ρ22 e1 (.int (a : Int)) → EV c' ρ22 e2 (.int (b : Int)) → (starEach [e1, e2] c'.env).all (fun x => !x.1) = true → starEach [e1, e2] c'.env = (false, eval e1 c'.env) :: starEach [e2] c'.env → starEach [e2] c'.env = (false, eval e2 c'.env) :: starEach [] c'.env →
        EV c' ρ22 (.Call (.Name "or_" p1) [e1, e2] [] p2) (.int ((a ||| b : Nat) : Int)) := fun {e1 e2 p1 p2 a b} h1 h2 q1 q2 q3 =>
      ev_to (ev_fn (d := dOr) (fn_or (x := (a : Int)) (y := (b : Int))) (Nat.le_of_ble_eq_true rfl) hk rfl (by (repeat (first | exact List.Mem.head _ | refine List.Mem.tail _ ?_))) (by simp [topI]) rfl (evs_cons h1 (evs_cons h2 evs_nil q3) q2) q1 rfl) (by rw [bitOr_nat])
    have hexE : ∀ {p1 p2 p3 p4 p5 p6 p7 : Pos}, EV c' ρ22 (.Call (.Name "hex" p1) [.BinOp (.Constant (.int 3) 0 p2) .Mult (.BinOp (.Constant (.int 2) 0 p3) .Pow (.Name "far" p4) p5) p6] [] p7) (.str (hexS (3 * 2 ^ far))) := fun {_ _ _ _ _ _ _} =>
      ev_call (ev_blt (u := .builtin "hex") hk rfl (by (repeat (first | exact List.Mem.head _ | refine List.Mem.tail _ ?_))) (by (repeat (first | exact List.Mem.head _ | refine List.Mem.tail _ ?_))) rfl) (evs_cons (ev_to (ev_bin ev_int (ev_bin ev_int faE (bin_pow2 (by omega))) (bin_mul_int (IntMulOk.of_left (by decide +kernel)))) (show PV.int _ = PV.int ((3 * 2 ^ far : Nat) : Int) from by congr 1)) evs_nil rfl) (call_hexN (Nat.lt_trans h3 (by decide))) (.inl ⟨_, rfl⟩) rfl
    refine ev_to (ev_cmp (ev_fn (fn_flags (f := (Fl ||| 3 * 2 ^ far) ||| Fl) (Nat.lt_trans hor (by decide))) (Nat.le_of_ble_eq_true rfl) hk rfl (by (repeat (first | exact List.Mem.head _ | refine List.Mem.tail _ ?_))) (by simp [topI]) rfl (evs_cons (or1 (or1 flE shl rfl rfl rfl) flE rfl rfl rfl) evs_nil rfl) rfl rfl)
      (ev_meth ev_str (evs_cons (ev_to (ev_bin (ev_var (p := .strs (ownL W sh)) rfl hk rfl) (ev_list (l := ([hexS (3 * 2 ^ far)] : List Str).map IV.str) (evs_cons hexE evs_nil rfl) (Nat.le_of_ble_eq_true rfl)) (bin_add_list (by rw [List.length_map]; show _ + 1 ≤ _; omega))) (p' := .strs (ownL W sh ++ [hexS (3 * 2 ^ far)])) ?_) evs_nil rfl) (meth_join (x := commaS) ?_) rfl (by decide) rfl rfl) cmp_eq_str rfl) ?_
    · show PV.list _ = PV.list _
      rw [List.map_append]
    · rw [List.map_append, List.sum_append, List.length_append]
      have h1 := sum_len_le fun y hy => (hown y hy).2
      have h2 : (ownL W sh).length * 53 ≤ 12 * 53 := Nat.mul_le_mul_right _ hol
      have h4 := hexS_len (n := 3 * 2 ^ far) (Nat.lt_trans h3 (by decide))
      rw [hc2]
      simp only [List.map_cons, List.map_nil, List.sum_cons, List.sum_nil, List.length_cons, List.length_nil]
      omega
    · show PV.bool _ = PV.bool true
      congr 1
      rw [show prettyS ((Fl ||| 3 * 2 ^ far) ||| Fl) = Txt.join commaS (ownL W sh ++ [hexS (3 * 2 ^ far)]) from H.far]
      unfold eqS; simp
  exact ⟨_, exs_cons s4 (exs_cons s5 (exs_cons s6 (exs_cons s7 (exs_cons (ex_if_false s8 exs_nil) (exs_cons s9 (exs_cons s10 (exs_cons s11 (exs_cons s12 (exs_cons s13 (exs_cons (ex_if_false s14 exs_nil) (exs_cons s15 (exs_cons (ex_if_false s16 exs_nil) (exs_cons s17 (exs_cons s18 (exs_cons (ex_if_false s19 exs_nil) (exs_cons s20 (exs_cons (ex_if_false s21 exs_nil) (exs_cons s22 (cons_ret (ex_ret s23))))))))))))))))))))⟩
set_option maxHeartbeats 4000000 in
theorem law_run {l : List Int} {cs : List Nat} {c4 : Nat} {ts W : List Nat} (H : LawFacts l cs c4 ts W) (A : Around) (L : Addr) (cdv : Value) (lo : Nat) (hk : EnvOK (envC dLaw L cdv)) :
    ∃ ρ' ow', EXs ⟨prog, w, A, envC dLaw L cdv, 2, topI, lo⟩ dLaw.body [("script", .ints l)] .none (.ret (.bool true)) ρ' ow' := by
  let c : Cx := ⟨prog, w, A, envC dLaw L cdv, 2, topI, lo⟩
  let ρ0 : Rho := [("script", .ints l)]
  let ρ1 : Rho := ("cells", .ints (cellsOf l)) :: ρ0
  let ρ2 : Rho := ("hidden", .str hiddenS) :: ρ1
  let ρ3 : Rho := ("names", .strs namesL) :: ρ2
  let ρ4 : Rho := ("small", .list (smallL.map IV.strC)) :: ρ3
  have s0 : EX c (nthS dLaw.body 0) ρ0 .none .next ρ1 .none :=
    ex_assign (ev_fn (fn_cells H.hlen) (Nat.le_of_ble_eq_true rfl) hk rfl (by (repeat (first | exact List.Mem.head _ | refine List.Mem.tail _ ?_))) (by simp [topI]) rfl (evs_cons (ev_var rfl hk rfl) evs_nil rfl) rfl rfl) hk (.inl rfl) (by simp [Own.name]) rfl
  have s1 : EX c (nthS dLaw.body 1) ρ1 .none .next ρ2 .none :=
    ex_assign (ev_fn fn_hidden (Nat.le_of_ble_eq_true rfl) hk rfl (by (repeat (first | exact List.Mem.head _ | refine List.Mem.tail _ ?_))) (by simp [topI]) rfl evs_nil rfl rfl) hk (.inl rfl) (by simp [Own.name]) rfl
  have s2 : EX c (nthS dLaw.body 2) ρ2 .none .next ρ3 .none :=
    ex_assign (ev_fn fn_names (Nat.le_of_ble_eq_true rfl) hk rfl (by (repeat (first | exact List.Mem.head _ | refine List.Mem.tail _ ?_))) (by simp [topI]) rfl evs_nil rfl rfl) hk (.inr ⟨rfl, rfl⟩) (by simp [Own.name]) rfl
  have s3 : EX c (nthS dLaw.body 3) ρ3 .none .next ρ4 .none := by
    let comp := match retE (nthS dLaw.body 3) with | .BinOp e _ _ _ => e | e => e
    have E : EV c ρ3 comp (.list ((namesL.map Txt.lower).map IV.strC)) := by
      refine ev_to (ev_comp (clOf (scopeOf comp) c.env) [] (res := namesL.map fun x => .strC (Txt.lower x)) rfl (ev_var (p := .strs namesL) rfl hk rfl) (ev_items namesL) hk (fun C => ?_) (fun C => rule_elt) (by decide +kernel) rfl (by decide) (fun _ => rfl) (by decide) rfl rfl rfl SubR.nil (fun _ => trivial)) ?_
      · exact run_map _ fun y hy => ev_meth (ev_var (p := .str y) rfl ⟨rfl, rfl, rfl⟩ rfl) evs_nil (meth_lower (low_names y hy)) rfl (by decide) rfl rfl
      · show PV.list _ = PV.list _
        rw [List.map_map]; rfl
    refine ex_assign (ev_to (ev_bin E (ev_int (i := 2)) (bin_mul_list2 (by decide +kernel))) ?_) hk (.inr ⟨rfl, rfl⟩) (by simp [Own.name]) rfl
    unfold smallL
    rw [List.map_append]
  let ρ5 : Nat → Rho := fun T => [("small", .list (smallL.map fun z => .strB z T)), ("names", .strs namesL), ("hidden", .str hiddenS), ("cells", .ints (cellsOf l))]
  have mk : ∀ T, SubR (ρ5 T) (Rho.mark T ρ4) := by
    intro T
    refine SubR.cons ?_ (SubR.cons ?_ (SubR.cons ?_ (SubR.cons ?_ SubR.nil)))
    · rw [lookup_mark, show ρ4.lookup (Str.ofString "small") = some (.list (smallL.map IV.strC)) from rfl, Option.map_some, mark_small]
    · rw [lookup_mark, show ρ4.lookup (Str.ofString "names") = some (.strs namesL) from rfl, Option.map_some, mark_strs]
    · rw [lookup_mark, show ρ4.lookup (Str.ofString "hidden") = some (.str hiddenS) from rfl]; rfl
    · rw [lookup_mark, show ρ4.lookup (Str.ofString "cells") = some (.ints (cellsOf l)) from rfl, Option.map_some, mark_ints]
  refine ⟨[], .none, exs_cons s0 (exs_cons s1 (exs_cons s2 (exs_cons s3 (exs_mark fun T => ?_))))⟩
  obtain ⟨ρ', h⟩ := law_rest (prog := prog) (w := w) H A L cdv T hk
  exact exs_weakR SubR.nil (exs_weak (mk T) h)
end
end Mine
end
section
open PySem PySem.W PySem.Calls PyProof.Rows PySem.Spec PySem.StrLaws
set_option maxRecDepth 100000
namespace Mine
noncomputable def sumP (bs : List Nat) : Nat := (bs.map fun b => 2 ^ b).sum
theorem sumP_dvd {i : Nat} : ∀ {bs : List Nat}, (∀ b ∈ bs, i ≤ b) → 2 ^ i ∣ sumP bs
  | [], _ => ⟨0, rfl⟩
  | b :: bs, h => by
    show 2 ^ i ∣ 2 ^ b + sumP bs
    exact Nat.dvd_add (Nat.pow_dvd_pow 2 (h b List.mem_cons_self)) (sumP_dvd fun c hc => h c (List.mem_cons_of_mem _ hc))
theorem sumP_pos {bs : List Nat} (h : bs ≠ []) : 0 < sumP bs := by
  cases bs with
  | nil => exact absurd rfl h
  | cons b bs =>
    show 0 < 2 ^ b + sumP bs
    have : 0 < 2 ^ b := Nat.two_pow_pos b
    omega
theorem pf_main : ∀ (k i : Nat) (bs : List Nat) (R : Nat) (acc : List Str), bs.Pairwise (· < ·) → (∀ b ∈ bs, i ≤ b ∧ b < i + k) → 2 ^ (i + k) ∣ R →
    pfN k i (sumP bs + R) acc = acc ++ bs.map flagName ++ (if R = 0 then (if bs = [] then [hexS 0] else []) else [hexS R])
  | 0, i, bs, R, acc, _, hb, hR => by
    have : bs = [] := by
      cases bs with
      | nil => rfl
      | cons b bs => have := hb b List.mem_cons_self; omega
    subst this
    show acc ++ [hexS (0 + R)] = acc ++ [] ++ _
    rw [Nat.zero_add, List.append_nil]
    split
    · rename_i h; rw [h]; rfl
    · rfl
  | k + 1, i, bs, R, acc, hs, hb, hR => by
    have hR1 : 2 ^ (i + 1) ∣ R := Nat.dvd_trans (Nat.pow_dvd_pow 2 (by omega)) hR
    have e2 : (2 : Nat) ^ (i + 1) = 2 * 2 ^ i := by rw [Nat.pow_succ, Nat.mul_comm]
    have hpos : 0 < 2 ^ i := Nat.two_pow_pos i
    have hi1 : i + (k + 1) = i + 1 + k := by omega
    cases bs with
    | nil =>
      obtain ⟨c, hc⟩ := hR1
      have tb : (sumP [] + R).testBit i = false := by
        rw [show sumP [] + R = R from Nat.zero_add _, Nat.testBit_eq_decide_div_mod_eq, hc, e2, Nat.mul_assoc, Nat.mul_comm 2, Nat.mul_assoc, Nat.mul_div_cancel_left _ hpos]
        refine decide_eq_false ?_
        omega
      rw [pfN, if_neg (by rw [tb]; exact Bool.false_ne_true)]
      exact pf_main k (i + 1) [] R acc .nil (fun _ h => nomatch h) (hi1 ▸ hR)
    | cons b bs =>
      have hs' := List.pairwise_cons.mp hs
      by_cases hbi : b = i
      · subst hbi
        have hbs : ∀ c ∈ bs, b + 1 ≤ c := fun c hc => hs'.1 c hc
        obtain ⟨c, hc⟩ := Nat.dvd_add (sumP_dvd hbs) hR1
        have e0 : sumP (b :: bs) + R = 2 ^ b + (sumP bs + R) := by show 2 ^ b + sumP bs + R = _; omega
        have tb : (sumP (b :: bs) + R).testBit b = true := by
          rw [e0, Nat.testBit_eq_decide_div_mod_eq, hc, e2]
          refine decide_eq_true ?_
          rw [show 2 ^ b + 2 * 2 ^ b * c = 2 ^ b * (1 + 2 * c) by rw [Nat.mul_add, Nat.mul_one, Nat.mul_comm 2, Nat.mul_assoc], Nat.mul_div_cancel_left _ hpos]
          omega
        have e3 : sumP (b :: bs) + R - 2 ^ b = sumP bs + R := by rw [e0]; omega
        rw [pfN, if_pos tb, e3]
        by_cases hz : sumP bs + R = 0
        · rw [if_pos hz]
          have hb0 : bs = [] := by
            cases bs with
            | nil => rfl
            | cons d bs => have := sumP_pos (bs := d :: bs) (by simp); omega
          have hR0 : R = 0 := by omega
          subst hb0
          rw [if_pos hR0, if_neg (by simp)]
          simp
        · rw [if_neg hz, pf_main k (b + 1) bs R _ hs'.2 (fun c hc => ⟨hbs c hc, by have := (hb c (List.mem_cons_of_mem _ hc)).2; omega⟩) (hi1 ▸ hR)]
          by_cases hR0 : R = 0
          · rw [if_pos hR0, if_pos hR0, if_neg (show ¬ (b :: bs = []) by simp), if_neg (show ¬ bs = [] from fun h => hz (by rw [h, hR0]; rfl))]
            simp
          · rw [if_neg hR0, if_neg hR0]; simp
      · have hall : ∀ c ∈ b :: bs, i + 1 ≤ c := by
          intro c hc
          have h1 := (hb b List.mem_cons_self).1
          rcases List.mem_cons.mp hc with rfl | hc
          · omega
          · have := hs'.1 c hc; omega
        obtain ⟨c, hc⟩ := Nat.dvd_add (sumP_dvd hall) hR1
        have tb : (sumP (b :: bs) + R).testBit i = false := by
          rw [Nat.testBit_eq_decide_div_mod_eq, hc, e2, Nat.mul_assoc, Nat.mul_comm 2, Nat.mul_assoc, Nat.mul_div_cancel_left _ hpos]
          refine decide_eq_false ?_
          omega
        rw [pfN, if_neg (by rw [tb]; exact Bool.false_ne_true)]
        exact pf_main k (i + 1) (b :: bs) R acc hs (fun c hc => ⟨hall c hc, by have := (hb c hc).2; omega⟩) (hi1 ▸ hR)
noncomputable def bitsN (W : List Nat) (sh : Nat) : List Nat := ((List.range (W.length - 1)).filter fun j => fallQ W (1 + j)).map (· + sh)
theorem sumP_append (a b : List Nat) : sumP (a ++ b) = sumP a + sumP b := by unfold sumP; rw [List.map_append, List.sum_append]
theorem flags_sum (W : List Nat) (sh : Nat) : ∀ n, (List.range n).foldl (flagStep W sh) 0 = sumP (((List.range n).filter fun j => fallQ W (1 + j)).map (· + sh)) ∧ (List.range n).foldl (flagStep W sh) 0 < 2 ^ (n + sh)
  | 0 => ⟨rfl, Nat.two_pow_pos _⟩
  | n + 1 => by
    obtain ⟨h1, h2⟩ := flags_sum W sh n
    have e2 : (2 : Nat) ^ (n + 1 + sh) = 2 ^ (n + sh) + 2 ^ (n + sh) := by rw [show n + 1 + sh = n + sh + 1 by omega, Nat.pow_succ]; omega
    rw [List.range_succ, List.foldl_append, List.filter_append, List.map_append, sumP_append, ← h1]
    show flagStep W sh ((List.range n).foldl (flagStep W sh) 0) n = _ ∧ flagStep W sh ((List.range n).foldl (flagStep W sh) 0) n < _
    generalize (List.range n).foldl (flagStep W sh) 0 = f at h2
    unfold flagStep
    by_cases hf : fallQ W (1 + n) = true
    · rw [if_pos hf, show 1 + n - 1 + sh = n + sh by omega]
      have e : f ||| 2 ^ (n + sh) = f + 2 ^ (n + sh) := by
        have := Nat.two_pow_add_eq_or_of_lt h2 1
        rw [Nat.mul_one] at this
        rw [Nat.or_comm, ← this, Nat.add_comm]
      rw [e, List.filter_cons_of_pos (p := fun j => fallQ W (1 + j)) hf]
      refine ⟨?_, by omega⟩
      show _ = f + (2 ^ (n + sh) + 0)
      omega
    · rw [if_neg hf, List.filter_cons_of_neg (p := fun j => fallQ W (1 + j)) hf]
      exact ⟨rfl, by omega⟩
theorem flags_bits (W : List Nat) (sh : Nat) : flagsN W sh = sumP (bitsN W sh) := (flags_sum W sh _).1
theorem bits_sorted (W : List Nat) (sh : Nat) : (bitsN W sh).Pairwise (· < ·) := by
  unfold bitsN
  rw [List.pairwise_map]
  refine List.Pairwise.imp (fun h => by omega) (List.Pairwise.filter _ List.pairwise_lt_range)
theorem bits_mem {W : List Nat} {sh b : Nat} (h : b ∈ bitsN W sh) : sh ≤ b ∧ b + 1 < W.length + sh := by
  obtain ⟨j, hj, rfl⟩ := List.mem_map.mp h
  have := List.mem_range.mp (List.mem_filter.mp hj).1
  omega
end Mine
end
section
open PySem PySem.W PySem.Calls PyProof.Rows PySem.Spec PySem.StrLaws
set_option maxRecDepth 100000
namespace Mine
noncomputable def gF (n : Nat) : List Nat := (foldB3 n).cps.toList
noncomputable def nmA (i : Nat) : Str := namesL.getD i ⟨#[]⟩
noncomputable def gL (n : Nat) : List Nat := (Txt.lower ⟨#[n]⟩).cps.toList
theorem low_ascii : ∀ n < 128, (Txt.lower (sgn n)).length ≤ 10 := by decide +kernel
theorem ascii_fold {n : Nat} (h : n < 128) : (Txt.lower (sgn n)).length ≤ 100 ∧ (foldB3 n).length ≤ 10 := by
  have h1 := low_ascii n h
  rw [fold_low (by omega)]
  exact ⟨Nat.le_trans h1 (by decide), h1⟩
theorem gF_low {n : Nat} (h : n < 128) : gF n = gL n := by unfold gF gL; rw [fold_low (by omega)]
theorem nm1 : ∀ i < 32, flagName i = nmA i ∧ 3 ≤ (nmA i).length := by decide +kernel
theorem nmA_ascii : ∀ i < 32, ((nmA i).cps.toList.all fun n => Nat.blt n 128) = true := by decide +kernel
theorem ascii_at {i : Nat} (h : i < 32) {n : Nat} (hn : n ∈ (nmA i).cps.toList) : n < 128 := by
  have := List.all_eq_true.mp (nmA_ascii i h) n hn
  exact Nat.le_of_ble_eq_true this
theorem nm2 : ∀ i < 32, ∀ n ∈ (nmA i).cps.toList, (Txt.lower (sgn n)).length ≤ 100 ∧ (foldB3 n).length ≤ 10 := fun i hi n hn => ascii_fold (ascii_at hi hn)
theorem nm3L : ∀ i < 32, (nmA i).cps.toList.flatMap gL = (Txt.lower (nmA i)).cps.toList ∧ 44 ∉ (Txt.lower (nmA i)).cps.toList := by decide +kernel
theorem nm3 : ∀ i < 32, (nmA i).cps.toList.flatMap gF = (Txt.lower (nmA i)).cps.toList ∧ 44 ∉ (Txt.lower (nmA i)).cps.toList := fun i hi => by
  refine ⟨?_, (nm3L i hi).2⟩
  rw [← (nm3L i hi).1, List.flatMap_def, List.flatMap_def]
  congr 1
  exact List.map_congr_left fun n hn => gF_low (ascii_at hi hn)
theorem nm4 : ∀ i < 32, indexS (Txt.lower (nmA i)) smallL = i ∧ Txt.lower (nmA i) ∈ smallL := by decide +kernel
theorem nm5z : hexS 0 = "0x0" ∧ ((hexS 0).cps.toList.all fun n => Nat.blt n 128) = true ∧ gL 44 = [44] ∧ gL 32 = [32] := by decide +kernel
theorem nm5 : hexS 0 = "0x0" ∧ (∀ n ∈ (hexS 0).cps.toList, (Txt.lower (sgn n)).length ≤ 100 ∧ (foldB3 n).length ≤ 10) ∧ (∀ n ∈ [44, 32], (Txt.lower (sgn n)).length ≤ 100 ∧ (foldB3 n).length ≤ 10) ∧ gF 44 = [44] ∧ gF 32 = [32] := by
  refine ⟨nm5z.1, fun n hn => ascii_fold (Nat.le_of_ble_eq_true (List.all_eq_true.mp nm5z.2.1 n hn)), fun n hn => ascii_fold ?_, ?_, ?_⟩
  · simp at hn; omega
  · rw [gF_low (by decide)]; exact nm5z.2.2.1
  · rw [gF_low (by decide)]; exact nm5z.2.2.2
end Mine
end
section
open PySem PySem.W PySem.Calls PyProof.Rows PySem.Spec PySem.StrLaws
set_option maxRecDepth 100000
namespace Mine
theorem comma_list : commaS = ⟨#[44, 32]⟩ := by decide +kernel
theorem join_inter : ∀ l : List Str, (Txt.join commaS l).cps.toList = inter2 44 32 (l.map fun s => s.cps.toList) := by
  intro l
  show (Builtin.Str.glued commaS l).cps.toList = _
  rw [glued_eq_join]
  have hc : commaS.cps.toList = [44, 32] := by rw [comma_list]
  induction l with
  | nil => rfl
  | cons x r ih =>
    cases r with
    | nil => rfl
    | cons y r =>
      show (x ++ commaS ++ Str.join commaS (y :: r)).cps.toList = _
      rw [cps_app, cps_app, ih, hc, List.append_assoc]
      rfl
theorem flatMap_inter {g : Nat → List Nat} (h1 : g 44 = [44]) (h2 : g 32 = [32]) : ∀ ws : List (List Nat), (inter2 44 32 ws).flatMap g = inter2 44 32 (ws.map fun w => w.flatMap g)
  | [] => rfl
  | [w] => rfl
  | w :: v :: r => by
    show (w ++ 44 :: 32 :: inter2 44 32 (v :: r)).flatMap g = _
    rw [List.flatMap_append, List.flatMap_cons, List.flatMap_cons, h1, h2, flatMap_inter h1 h2 (v :: r)]
    rfl
theorem inter_mem {P : Nat → Prop} (h1 : P 44) (h2 : P 32) : ∀ ws : List (List Nat), (∀ w ∈ ws, ∀ a ∈ w, P a) → ∀ a ∈ inter2 44 32 ws, P a
  | [], _, a, ha => by cases ha
  | [w], h, a, ha => h w List.mem_cons_self a ha
  | w :: v :: r, h, a, ha => by
    have ha : a ∈ w ++ 44 :: 32 :: inter2 44 32 (v :: r) := ha
    rcases List.mem_append.mp ha with q | q
    · exact h w List.mem_cons_self a q
    · rcases List.mem_cons.mp q with rfl | q
      · exact h1
      · rcases List.mem_cons.mp q with rfl | q
        · exact h2
        · exact inter_mem h1 h2 (v :: r) (fun u hu => h u (List.mem_cons_of_mem _ hu)) a q
theorem inter_len : ∀ ws : List (List Nat), ws ≠ [] → (∀ w ∈ ws, 3 ≤ w.length) → 3 ≤ (inter2 44 32 ws).length
  | [], h, _ => absurd rfl h
  | [w], _, h => h w List.mem_cons_self
  | w :: v :: r, _, h => by
    show 3 ≤ (w ++ 44 :: 32 :: inter2 44 32 (v :: r)).length
    have := h w List.mem_cons_self
    rw [List.length_append]; omega
section
variable {W : List Nat} {sh : Nat}
theorem own_bits : ownL W sh = (bitsN W sh).map nmA := by
  unfold ownL descN bitsN
  rw [List.map_map, List.map_map]
  refine List.map_congr_left fun j _ => ?_
  show namesL.getD (1 + j - 1 + sh) ⟨#[]⟩ = namesL.getD (j + sh) ⟨#[]⟩
  rw [show 1 + j - 1 + sh = j + sh by omega]
theorem bits_lt (h12 : W.length ≤ 12) (hsh : sh < 22) {b : Nat} (h : b ∈ bitsN W sh) : b < 32 := by
  have := bits_mem h; omega
theorem flag_names (h12 : W.length ≤ 12) (hsh : sh < 22) : (bitsN W sh).map flagName = ownL W sh := by
  rw [own_bits]
  exact List.map_congr_left fun b hb => (nm1 b (bits_lt h12 hsh hb)).1
theorem pf_flags (h12 : W.length ≤ 12) (hsh : sh < 22) (R : Nat) (hR : 2 ^ 32 ∣ R) : pfN 32 0 (flagsN W sh + R) [] = ownL W sh ++ (if R = 0 then (if bitsN W sh = [] then [hexS 0] else []) else [hexS R]) := by
  rw [flags_bits, pf_main 32 0 (bitsN W sh) R [] (bits_sorted W sh) (fun b hb => ⟨Nat.zero_le _, by have := bits_lt h12 hsh hb; omega⟩) (by simpa using hR), flag_names h12 hsh, List.nil_append]
theorem flags0_iff : flagsN W sh = 0 ↔ bitsN W sh = [] := by
  rw [flags_bits]
  constructor
  · intro h
    cases hb : bitsN W sh with
    | nil => rfl
    | cons b bs => have := sumP_pos (bs := bitsN W sh) (by rw [hb]; simp); omega
  · intro h; rw [h]; rfl
theorem own_nil : ownL W sh = [] ↔ bitsN W sh = [] := by rw [own_bits, List.map_eq_nil_iff]
theorem f_told (h12 : W.length ≤ 12) (hsh : sh < 22) : prettyS (flagsN W sh) = if ownL W sh = [] then ("0x0" : Str) else Txt.join commaS (ownL W sh) := by
  have := pf_flags h12 hsh 0 ⟨0, rfl⟩
  rw [Nat.add_zero] at this
  unfold prettyS
  rw [this, if_pos rfl]
  by_cases h : bitsN W sh = []
  · rw [if_pos h, if_pos (own_nil.mpr h), own_nil.mpr h, nm5.1]; rfl
  · rw [if_neg h, if_neg (fun q => h (own_nil.mp q)), List.append_nil]; rfl
theorem f_far (h12 : W.length ≤ 12) (hsh : sh < 22) {far : Nat} (hfar : 32 ≤ far) : prettyS ((flagsN W sh ||| 3 * 2 ^ far) ||| flagsN W sh) = Txt.join commaS (ownL W sh ++ [hexS (3 * 2 ^ far)]) := by
  have hF : flagsN W sh < 2 ^ far := by
    have := (flags_sum W sh (W.length - 1)).2
    refine Nat.lt_of_lt_of_le this (Nat.pow_le_pow_right (by decide) (by omega))
  have e : ((flagsN W sh ||| 3 * 2 ^ far) ||| flagsN W sh) = flagsN W sh + 3 * 2 ^ far := by
    have h1 := Nat.two_pow_add_eq_or_of_lt hF 3
    rw [Nat.or_comm (flagsN W sh) (3 * 2 ^ far), Nat.or_assoc, Nat.or_self, Nat.mul_comm 3, ← h1, Nat.add_comm]
  have hp : 0 < 2 ^ far := Nat.two_pow_pos far
  unfold prettyS
  rw [e, pf_flags h12 hsh _ (Nat.dvd_mul_left_of_dvd (Nat.pow_dvd_pow 2 hfar) 3), if_neg (by omega)]
  rfl
theorem pretty_list (h12 : W.length ≤ 12) (hsh : sh < 22) (h : bitsN W sh ≠ []) : (prettyS (flagsN W sh)).cps.toList = inter2 44 32 ((bitsN W sh).map fun b => (nmA b).cps.toList) := by
  rw [f_told h12 hsh, if_neg (fun q => h (own_nil.mp q)), join_inter, own_bits, List.map_map]; rfl
theorem f_plen (h12 : W.length ≤ 12) (hsh : sh < 22) : (prettyS (flagsN W sh)).length ≠ 1 := by
  have hl : ∀ x : Str, x.cps.toList.length = x.length := fun x => by rw [Array.length_toList]; rfl
  by_cases h : bitsN W sh = []
  · rw [f_told h12 hsh, if_pos (own_nil.mpr h)]; decide +kernel
  · rw [← hl, pretty_list h12 hsh h]
    have := inter_len ((bitsN W sh).map fun b => (nmA b).cps.toList) (by simpa using h) fun w hw => by
      obtain ⟨b, hb, rfl⟩ := List.mem_map.mp hw
      rw [hl]; exact (nm1 b (bits_lt h12 hsh hb)).2
    omega
theorem f_pfold (h12 : W.length ≤ 12) (hsh : sh < 22) : ∀ n ∈ (prettyS (flagsN W sh)).cps.toList, (Txt.lower (sgn n)).length ≤ 100 ∧ (foldB3 n).length ≤ 10 := by
  by_cases h : bitsN W sh = []
  · rw [f_told h12 hsh, if_pos (own_nil.mpr h), ← nm5.1]
    exact nm5.2.1
  · rw [pretty_list h12 hsh h]
    refine inter_mem (P := fun n => (Txt.lower (sgn n)).length ≤ 100 ∧ (foldB3 n).length ≤ 10) (nm5.2.2.1 44 (by simp)) (nm5.2.2.1 32 (by simp)) _ fun w hw a ha => ?_
    obtain ⟨b, hb, rfl⟩ := List.mem_map.mp hw
    exact nm2 b (bits_lt h12 hsh hb) a ha
theorem parts_eq (h12 : W.length ≤ 12) (hsh : sh < 22) (h : bitsN W sh ≠ []) : partsL (flagsN W sh) = (bitsN W sh).map fun b => Txt.lower (nmA b) := by
  have e1 : (foldedS (flagsN W sh)).cps.toList = inter2 44 32 ((bitsN W sh).map fun b => (Txt.lower (nmA b)).cps.toList) := by
    unfold foldedS
    rw [join_cat]
    unfold catL
    rw [List.map_map, ← List.flatMap_def]
    show (prettyS (flagsN W sh)).cps.toList.flatMap gF = _
    rw [pretty_list h12 hsh h, flatMap_inter nm5.2.2.2.1 nm5.2.2.2.2, List.map_map]
    congr 1
    exact List.map_congr_left fun b hb => (nm3 b (bits_lt h12 hsh hb)).1
  unfold partsL
  rw [str_list e1, comma_list, split2 (by decide) (by decide) (by simpa using h) fun w hw => ?_, List.map_map]
  · exact List.map_congr_left fun b _ => (str_list rfl).symm
  · obtain ⟨b, hb, rfl⟩ := List.mem_map.mp hw
    exact (nm3 b (bits_lt h12 hsh hb)).2
theorem f_parts (h12 : W.length ≤ 12) (hsh : sh < 22) (h : flagsN W sh ≠ 0) : ∀ y ∈ partsL (flagsN W sh), ∃ x ∈ smallL, eqS x y = true := by
  have h' : bitsN W sh ≠ [] := fun q => h (flags0_iff.mpr q)
  rw [parts_eq h12 hsh h']
  intro y hy
  obtain ⟨b, hb, rfl⟩ := List.mem_map.mp hy
  exact ⟨_, (nm4 b (bits_lt h12 hsh hb)).2, by unfold eqS; simp⟩
theorem f_places (h12 : W.length ≤ 12) (hsh : sh < 22) : (if flagsN W sh = 0 then [] else (partsL (flagsN W sh)).map fun y => ((indexS y smallL : Nat) : Int) - ((sh : Nat) : Int) + 1) = (descN W).map Int.ofNat := by
  have hd : (descN W).map Int.ofNat = (bitsN W sh).map fun b => ((b : Nat) : Int) - ((sh : Nat) : Int) + 1 := by
    unfold descN bitsN
    rw [List.map_map, List.map_map]
    refine List.map_congr_left fun j _ => ?_
    show ((1 + j : Nat) : Int) = ((j + sh : Nat) : Int) - (sh : Int) + 1
    omega
  rw [hd]
  by_cases h : bitsN W sh = []
  · rw [if_pos (flags0_iff.mpr h), h]; rfl
  · rw [if_neg (fun q => h (flags0_iff.mp q)), parts_eq h12 hsh h, List.map_map]
    refine List.map_congr_left fun b hb => ?_
    show ((indexS (Txt.lower (nmA b)) smallL : Nat) : Int) - _ + 1 = _
    rw [(nm4 b (bits_lt h12 hsh hb)).1]
end
end Mine
end
section
open PySem PySem.W PySem.Calls PyProof.Rows PySem.Spec PySem.StrLaws
set_option maxRecDepth 100000
namespace Mine
noncomputable def ltc (a : Nat) (l : List Nat) : Nat := l.countP (· < a)
noncomputable def dotsL : List Nat → List Nat
  | [] => []
  | a :: r => (ltc a r + 1) :: dotsL r
theorem dotsL_len : ∀ r : List Nat, (dotsL r).length = r.length
  | [] => rfl
  | a :: r => by simp [dotsL, dotsL_len r]
theorem okD_dots : ∀ r : List Nat, okD (dotsL r) r.length
  | [] => trivial
  | a :: r => by
    refine ⟨by omega, ?_, ?_⟩
    · have : ltc a r ≤ r.length := List.countP_le_length
      simp only [List.length_cons]; omega
    · simpa using okD_dots r
theorem dotsL_snoc (b : Nat) : ∀ l : List Nat, dotsL (l ++ [b]) = (List.zipWith (fun a d => d + if b < a then 1 else 0) l (dotsL l)) ++ [1]
  | [] => rfl
  | a :: l => by
    show (ltc a (l ++ [b]) + 1) :: dotsL (l ++ [b]) = _ :: _
    rw [dotsL_snoc b l]
    have : ltc a (l ++ [b]) = ltc a l + (if b < a then 1 else 0) := by
      unfold ltc
      rw [List.countP_append, List.countP_cons, List.countP_nil]
      simp
    rw [this]
    have e2 : ltc a l + (if b < a then 1 else 0) + 1 = ltc a l + 1 + (if b < a then 1 else 0) := by omega
    rw [e2]
    rfl
theorem sentN_dots (row : List Nat) : ∀ k, k ≤ row.length → sentN row k = dotsL (row.take k)
  | 0, _ => rfl
  | k + 1, h => by
    have hlt : k < row.length := by omega
    have e : row.take (k + 1) = row.take k ++ [row.getD k 0] := by
      rw [List.take_add_one, List.getElem?_eq_getElem hlt, List.getD_eq_getElem?_getD, List.getElem?_eq_getElem hlt]; rfl
    rw [e, dotsL_snoc]
    show bumped row (sentN row k) k ++ [1] = _
    congr 1
    rw [sentN_dots row k (by omega)]
    apply List.ext_getElem?
    intro i
    unfold bumped
    rw [List.getElem?_zipWith, List.getElem?_map]
    by_cases hi : i < k
    · have h1 : i < (row.take k).length := by rw [List.length_take]; omega
      have h2 : i < (dotsL (row.take k)).length := by rw [dotsL_len]; exact h1
      have h3 : i < row.length := by omega
      have e3 : row.getD i 0 = (row.take k)[i] := by rw [List.getElem_take, List.getD_eq_getElem?_getD, List.getElem?_eq_getElem h3]; rfl
      have e4 : (dotsL (row.take k)).getD i 0 = (dotsL (row.take k))[i] := by rw [List.getD_eq_getElem?_getD, List.getElem?_eq_getElem h2]; rfl
      rw [List.getElem?_range hi, List.getElem?_eq_getElem h1, List.getElem?_eq_getElem h2]
      show some ((dotsL (row.take k)).getD i 0 + (if row.getD k 0 < row.getD i 0 then 1 else 0)) = some ((dotsL (row.take k))[i] + if row.getD k 0 < (row.take k)[i] then 1 else 0)
      rw [e3, e4]
    · rw [List.getElem?_eq_none (by rw [List.length_range]; omega), List.getElem?_eq_none (by rw [List.length_take]; omega)]
      rfl
theorem dots_of (W : List Nat) : dotsOf W = dotsL (rowOf W) := by
  unfold dotsOf
  rw [sentN_dots _ _ (Nat.le_refl _), List.take_length]
theorem ltc_perm {a : Nat} {l m : List Nat} (h : l.Perm m) : ltc a l = ltc a m := h.countP_eq _
theorem insS_at : ∀ (a : Nat) (l : List Nat), l.Pairwise (· ≤ ·) → insS a l = l.take (ltc a l) ++ a :: l.drop (ltc a l)
  | a, [], _ => rfl
  | a, y :: r, h => by
    have h' := List.pairwise_cons.mp h
    unfold insS
    by_cases hay : a ≤ y
    · rw [if_pos hay]
      have : ltc a (y :: r) = 0 := by
        unfold ltc
        rw [List.countP_eq_zero]
        intro x hx
        rcases List.mem_cons.mp hx with rfl | hx
        · simpa using hay
        · have := h'.1 x hx
          simp; omega
      rw [this]; rfl
    · rw [if_neg hay, insS_at a r h'.2]
      have : ltc a (y :: r) = ltc a r + 1 := by
        unfold ltc
        rw [List.countP_cons_of_pos (by simp; omega)]
      rw [this]; rfl
theorem sorted_eq : ∀ {l m : List Nat}, l.Perm m → l.Pairwise (· ≤ ·) → m.Pairwise (· ≤ ·) → l = m
  | [], m, h, _, _ => (List.nil_perm.mp h).symm
  | a :: l, [], h, _, _ => absurd h.length_eq (by simp)
  | a :: l, b :: m, h, h1, h2 => by
    have h1' := List.pairwise_cons.mp h1
    have h2' := List.pairwise_cons.mp h2
    have hab : a = b := by
      have ha : a ∈ b :: m := h.mem_iff.mp List.mem_cons_self
      have hb : b ∈ a :: l := h.mem_iff.mpr List.mem_cons_self
      rcases List.mem_cons.mp ha with h | ha
      · exact h
      · rcases List.mem_cons.mp hb with h | hb
        · exact h.symm
        · exact Nat.le_antisymm (h1'.1 b hb) (h2'.1 a ha)
    subst hab
    rw [sorted_eq (List.perm_cons a |>.mp h) h1'.2 h2'.2]
theorem sortN_of_perm {l m : List Nat} (h : l.Perm m) : sortN l = sortN m :=
  sorted_eq ((sortN_perm l).trans (h.trans (sortN_perm m).symm)) (sortN_sorted l) (sortN_sorted m)
theorem told_dots : ∀ (r acc : List Nat), toldN (dotsL r) (sortN r) acc = acc ++ r
  | [], acc => by simp [dotsL, toldN]
  | a :: r, acc => by
    have hs := sortN_sorted r
    have hp : ltc a (sortN r) = ltc a r := ltc_perm (sortN_perm r)
    have hle : ltc a r ≤ (sortN r).length := by rw [← hp]; exact List.countP_le_length
    have e : sortN (a :: r) = (sortN r).take (ltc a r) ++ a :: (sortN r).drop (ltc a r) := by
      show insS a (sortN r) = _
      rw [insS_at a _ hs, hp]
    have hl : ((sortN r).take (ltc a r)).length = ltc a r := by rw [List.length_take]; omega
    show toldN (dotsL r) ((sortN (a :: r)).take (ltc a r + 1 - 1) ++ (sortN (a :: r)).drop (ltc a r + 1)) (acc ++ [(sortN (a :: r)).getD (ltc a r + 1 - 1) 0]) = _
    rw [show ltc a r + 1 - 1 = ltc a r by omega]
    have e1 : (sortN (a :: r)).take (ltc a r) = (sortN r).take (ltc a r) := by rw [e, List.take_left' hl]
    have e2 : (sortN (a :: r)).drop (ltc a r + 1) = (sortN r).drop (ltc a r) := by
      rw [e, ← List.drop_drop, List.drop_left' hl]; rfl
    have e3 : (sortN (a :: r)).getD (ltc a r) 0 = a := by
      rw [e, List.getD_eq_getElem?_getD, List.getElem?_append_right (by omega), hl, Nat.sub_self]; rfl
    rw [e1, e2, e3, List.take_append_drop, told_dots r]
    simp
end Mine
end
section
open PySem PySem.W PySem.Calls PyProof.Rows PySem.Spec PySem.StrLaws
set_option maxRecDepth 100000
namespace Mine
theorem snoc_ind {α : Type} {P : List α → Prop} (h0 : P []) (h1 : ∀ l a, P l → P (l ++ [a])) (l : List α) : P l := by
  have : ∀ m : List α, P m.reverse := by
    intro m
    induction m with
    | nil => exact h0
    | cons a m ih => rw [List.reverse_cons]; exact h1 _ _ ih
  have h := this l.reverse
  rwa [List.reverse_reverse] at h
noncomputable def invN : List Nat → Nat
  | [] => 0
  | a :: r => ltc a r + invN r
noncomputable def crN (l m : List Nat) : Nat := (l.map fun a => ltc a m).sum
theorem ltc_append (a : Nat) (l m : List Nat) : ltc a (l ++ m) = ltc a l + ltc a m := by unfold ltc; rw [List.countP_append]
theorem crN_append (l l' m : List Nat) : crN (l ++ l') m = crN l m + crN l' m := by unfold crN; rw [List.map_append, List.sum_append]
theorem crN_perm {l l' m m' : List Nat} (h : l.Perm l') (g : m.Perm m') : crN l m = crN l' m' := by
  unfold crN
  have : (fun a => ltc a m) = fun a => ltc a m' := by funext a; exact ltc_perm g
  rw [this]
  exact (h.map _).sum_nat
theorem inv_append : ∀ l m : List Nat, invN (l ++ m) = invN l + invN m + crN l m
  | [], m => by simp [invN, crN]
  | a :: l, m => by
    show ltc a (l ++ m) + invN (l ++ m) = ltc a l + invN l + invN m + (ltc a m + crN l m)
    rw [ltc_append, inv_append l m]; omega
theorem mov_laid (big : Bool) (s : Nat) : ∀ (r held laid : List Nat), movIn big s r held laid = laid ++ movIn big s r held []
  | [], held, laid => by simp [movIn]
  | a :: r, held, laid => by
    unfold movIn
    split
    · rw [mov_laid big s r [] (laid ++ _), mov_laid big s r [] ([] ++ _)]; simp
    · exact mov_laid big s r _ laid
theorem ltc_all {a : Nat} {l : List Nat} (h : ∀ x ∈ l, x < a) : ltc a l = l.length := by
  unfold ltc; rw [List.countP_eq_length]; intro x hx; simpa using h x hx
theorem ltc_none {a : Nat} {l : List Nat} (h : ∀ x ∈ l, a ≤ x) : ltc a l = 0 := by
  unfold ltc; rw [List.countP_eq_zero]; intro x hx; have := h x hx; simp; omega
noncomputable def gtc (s : Nat) (l : List Nat) : Nat := l.countP (s < ·)
noncomputable def lec (s : Nat) (l : List Nat) : Nat := l.countP (· ≤ s)
theorem gtc_append (a : Nat) (l m : List Nat) : gtc a (l ++ m) = gtc a l + gtc a m := by unfold gtc; rw [List.countP_append]
theorem lec_append (a : Nat) (l m : List Nat) : lec a (l ++ m) = lec a l + lec a m := by unfold lec; rw [List.countP_append]
theorem gtc_lec (s : Nat) : ∀ l : List Nat, gtc s l + lec s l = l.length
  | [] => rfl
  | a :: l => by
    have ih := gtc_lec s l
    unfold gtc lec at *
    rw [List.countP_cons, List.countP_cons, List.length_cons]
    by_cases h : s < a
    · rw [if_pos (by simpa using h), if_neg (by simp; omega)]; omega
    · rw [if_neg (by simpa using h), if_pos (by simp; omega)]; omega
theorem crN_one (l : List Nat) (s : Nat) : crN l [s] = gtc s l := by
  induction l with
  | nil => rfl
  | cons a l ih =>
    show ltc a [s] + crN l [s] = _
    unfold gtc at *
    rw [ih, List.countP_cons]
    unfold ltc
    rw [List.countP_cons, List.countP_nil]; omega
theorem last_tail {P : Nat → Prop} {held r : List Nat} {a : Nat} (h : ∀ x, (held ++ a :: r).getLast? = some x → P x) : ∀ x, r.getLast? = some x → P x := fun x hx => by
  refine h x ?_
  cases r with
  | nil => cases hx
  | cons b r => rw [List.getLast?_append, List.getLast?_cons_cons, hx]; rfl
theorem mov_perm (big : Bool) (s : Nat) : ∀ (r held : List Nat), (∀ x ∈ held, ¬ (decide (x ≤ s) == big) = true) → (∀ x, (held ++ r).getLast? = some x → (decide (x ≤ s) == big) = true) → (movIn big s r held []).Perm (held ++ r)
  | [], held, hh, hl => by
    have : held = [] := by
      rcases List.eq_nil_or_concat held with h | ⟨l, a, h⟩
      · exact h
      · subst h; exact absurd (hl a (by simp)) (hh a (by simp))
    subst this; exact .refl _
  | a :: r, held, hh, hl => by
    unfold movIn
    by_cases h : (decide (a ≤ s) == big) = true
    · rw [if_pos h, mov_laid, rotL_snoc, List.nil_append]
      have ih := mov_perm big s r [] (fun _ h => nomatch h) (last_tail hl)
      have e : held ++ a :: r = (held ++ [a]) ++ r := by simp
      rw [e]
      exact (List.perm_append_comm (l₁ := [a]) (l₂ := held)).append ih
    · rw [if_neg h]
      have ih := mov_perm big s r (held ++ [a]) (fun x hx => by
        rcases List.mem_append.mp hx with q | q
        · exact hh x q
        · rw [List.mem_singleton.mp q]; exact h) (by simpa using hl)
      simpa using ih
theorem mov_inv (big : Bool) (s : Nat) : ∀ (r held : List Nat), (∀ x ∈ held, ¬ (decide (x ≤ s) == big) = true) → (∀ x, (held ++ r).getLast? = some x → (decide (x ≤ s) == big) = true) →
    if big = true then invN (movIn big s r held []) + gtc s (held ++ r) = invN (held ++ r) else invN (movIn big s r held []) = invN (held ++ r) + lec s (held ++ r)
  | [], held, hh, hl => by
    have : held = [] := by
      rcases List.eq_nil_or_concat held with h | ⟨l, a, h⟩
      · exact h
      · subst h; exact absurd (hl a (by simp)) (hh a (by simp))
    subst this; split <;> rfl
  | a :: r, held, hh, hl => by
    unfold movIn
    by_cases h : (decide (a ≤ s) == big) = true
    · rw [if_pos h, mov_laid, rotL_snoc, List.nil_append]
      have hp := mov_perm big s r [] (fun _ h => nomatch h) (last_tail hl)
      have ih := mov_inv big s r [] (fun _ h => nomatch h) (last_tail hl)
      rw [List.nil_append] at hp ih
      have e : held ++ a :: r = (held ++ [a]) ++ r := by simp
      have ec : crN (a :: held) (movIn big s r [] []) = crN (held ++ [a]) r := crN_perm (List.perm_append_comm (l₁ := [a]) (l₂ := held)) hp
      have e1 : invN (a :: held) = ltc a held + invN held := rfl
      have e2 : invN (held ++ [a]) = invN held + gtc a held := by rw [inv_append, crN_one]; show _ + 0 + _ = _; omega
      have e3 : gtc a held + lec a held = held.length := gtc_lec a held
      rw [e, inv_append (a :: held), inv_append (held ++ [a]), ec, e1, e2, gtc_append, lec_append, gtc_append, lec_append]
      cases big with
      | true =>
        have ha : a ≤ s := by simpa using h
        have hx : ∀ x ∈ held, s < x := fun x hx => by have := hh x hx; simp at this; exact this
        rw [if_pos rfl] at ih ⊢
        have z1 : ltc a held = 0 := ltc_none fun x q => by have := hx x q; omega
        have z2 : gtc a held = held.length := by unfold gtc; rw [List.countP_eq_length]; intro x q; have := hx x q; simp; omega
        have z3 : gtc s held = held.length := by unfold gtc; rw [List.countP_eq_length]; intro x q; simpa using hx x q
        have z4 : gtc s [a] = 0 := by unfold gtc; rw [List.countP_eq_zero]; intro x q; rw [List.mem_singleton.mp q]; simp; omega
        omega
      | false =>
        have ha : s < a := by simp at h; exact h
        have hx : ∀ x ∈ held, x ≤ s := fun x hx => by have := hh x hx; simp at this; exact this
        rw [if_neg (by decide)] at ih ⊢
        have z1 : ltc a held = held.length := ltc_all fun x q => by have := hx x q; omega
        have z2 : gtc a held = 0 := by unfold gtc; rw [List.countP_eq_zero]; intro x q; have := hx x q; simp; omega
        have z3 : lec s held = held.length := by unfold lec; rw [List.countP_eq_length]; intro x q; simpa using hx x q
        have z4 : lec s [a] = 0 := by unfold lec; rw [List.countP_eq_zero]; intro x q; rw [List.mem_singleton.mp q]; simp; omega
        omega
    · rw [if_neg h]
      have ih := mov_inv big s r (held ++ [a]) (fun x hx => by
        rcases List.mem_append.mp hx with q | q
        · exact hh x q
        · rw [List.mem_singleton.mp q]; exact h) (by simpa using hl)
      have e : held ++ [a] ++ r = held ++ a :: r := by simp
      rw [e] at ih
      exact ih
theorem last_D {row : List Nat} {x : Nat} (h : row.getLast? = some x) : row.getLastD 0 = x := by
  cases row with
  | nil => cases h
  | cons a r => rw [List.getLast?_eq_some_getLast (by simp)] at h; injection h
theorem step_ok (row : List Nat) (s : Nat) : ∀ x, (([] : List Nat) ++ row).getLast? = some x → (decide (x ≤ s) == decide (row.getLastD 0 ≤ s)) = true := fun x h => by
  have h : row.getLast? = some x := h
  rw [last_D h]; simp
theorem step_perm (row : List Nat) (s : Nat) : (movIn (decide (row.getLastD 0 ≤ s)) s row [] []).Perm row := by
  have := mov_perm (decide (row.getLastD 0 ≤ s)) s row [] (fun _ h => nomatch h) (step_ok row s)
  exact this
theorem step_inv (row : List Nat) (s : Nat) : invN (movStep row s) = invN row + if s < row.getLastD 0 then row.length else 0 := by
  unfold movStep
  have hp := step_perm row s
  have h := mov_inv (decide (row.getLastD 0 ≤ s)) s row [] (fun _ h => nomatch h) (step_ok row s)
  rw [List.nil_append] at h
  rw [inv_append, crN_one]
  have eg : gtc s (movIn (decide (row.getLastD 0 ≤ s)) s row [] []) = gtc s row := hp.countP_eq _
  have e1 : invN [s] = 0 := rfl
  rw [eg, e1]
  have e3 := gtc_lec s row
  by_cases q : row.getLastD 0 ≤ s
  · rw [if_pos (decide_eq_true q)] at h
    rw [if_neg (by omega)]; omega
  · rw [if_neg (by rw [decide_eq_false q]; decide)] at h
    rw [if_pos (by omega)]; omega
theorem step_len (row : List Nat) (s : Nat) : (movStep row s).length = row.length + 1 := by
  unfold movStep
  rw [List.length_append, (step_perm row s).length_eq]; rfl
theorem step_last (row : List Nat) (s : Nat) : (movStep row s).getLastD 0 = s := by
  refine last_D ?_
  unfold movStep
  rw [List.getLast?_concat]
theorem moved_snoc (s : Nat) : ∀ (w row : List Nat), moved (w ++ [s]) row = movStep (moved w row) s
  | [], row => rfl
  | a :: w, row => moved_snoc s w _
theorem rowOf_snoc (w : List Nat) (s : Nat) : rowOf (w ++ [s]) = movStep (rowOf w) s := moved_snoc s w []
theorem row_len : ∀ w : List Nat, (rowOf w).length = w.length :=
  snoc_ind rfl fun l a ih => by rw [rowOf_snoc, step_len, ih, List.length_append]; rfl
theorem row_perm : ∀ w : List Nat, (rowOf w).Perm w :=
  snoc_ind (.refl _) fun l a ih => by
    rw [rowOf_snoc]
    unfold movStep
    exact ((step_perm _ a).trans ih).append (.refl _)
theorem row_last : ∀ w : List Nat, (rowOf w).getLastD 0 = w.getLastD 0 :=
  snoc_ind rfl fun l a _ => by rw [rowOf_snoc, step_last]; exact (last_D (by simp)).symm
theorem desc_snoc (w : List Nat) (s : Nat) : descN (w ++ [s]) = descN w ++ if s < w.getLastD 0 then [w.length] else [] := by
  cases hw : w with
  | nil => rfl
  | cons a r =>
    rw [← hw]
    have hl : 1 ≤ w.length := by rw [hw]; simp
    unfold descN
    have e1 : (w ++ [s]).length - 1 = (w.length - 1) + 1 := by simp; omega
    rw [e1, List.range_succ, List.filter_append, List.map_append]
    have e2 : (List.range (w.length - 1)).filter (fun j => fallQ (w ++ [s]) (1 + j)) = (List.range (w.length - 1)).filter fun j => fallQ w (1 + j) := by
      refine List.filter_congr fun j hj => ?_
      have hj := List.mem_range.mp hj
      unfold fallQ
      rw [List.getD_eq_getElem?_getD, List.getD_eq_getElem?_getD, List.getElem?_append_left (by omega), List.getElem?_append_left (by omega), ← List.getD_eq_getElem?_getD, ← List.getD_eq_getElem?_getD]
    rw [e2]
    congr 1
    have e3 : fallQ (w ++ [s]) (1 + (w.length - 1)) = decide (s < w.getLastD 0) := by
      unfold fallQ
      have a1 : (w ++ [s]).getD (1 + (w.length - 1)) 0 = s := by
        rw [show 1 + (w.length - 1) = w.length by omega, List.getD_eq_getElem?_getD, List.getElem?_append_right (Nat.le_refl _), Nat.sub_self]; rfl
      have a2 : (w ++ [s]).getD (1 + (w.length - 1) - 1) 0 = w.getLastD 0 := by
        rw [show 1 + (w.length - 1) - 1 = w.length - 1 by omega, List.getD_eq_getElem?_getD, List.getElem?_append_left (by omega), ← List.getLast?_eq_getElem?]
        cases q : w.getLast? with
        | none => rw [hw] at q; simp at q
        | some x => rw [last_D q]; rfl
      rw [a1, a2]
    rw [List.filter_cons, e3, List.filter_nil]
    by_cases q : s < w.getLastD 0
    · rw [if_pos q, if_pos (decide_eq_true q)]
      show [1 + (w.length - 1)] = _
      rw [show 1 + (w.length - 1) = w.length by omega]
    · rw [if_neg q, if_neg (by simpa using q)]; rfl
theorem inv_maj : ∀ w : List Nat, invN (rowOf w) = (descN w).sum :=
  snoc_ind rfl fun w s ih => by
    rw [rowOf_snoc, step_inv, ih, row_last, row_len, desc_snoc, List.sum_append]
    split <;> simp
theorem dots_sum : ∀ r : List Nat, (dotsL r).sum = r.length + invN r
  | [] => rfl
  | a :: r => by
    show (ltc a r + 1) + (dotsL r).sum = (r.length + 1) + (ltc a r + invN r)
    rw [dots_sum r]; omega
theorem pc_ls (big : Bool) (s : Nat) : ∀ (r : List Nat) (ls : List (List Nat)) (l : List Nat), pcIn big s r ls l = ls ++ pcIn big s r [] l
  | [], ls, l => rfl
  | a :: r, ls, l => by
    unfold pcIn
    split
    · rw [pc_ls big s r (ls ++ [l]) [a], pc_ls big s r ([] ++ [l]) [a]]; simp
    · exact pc_ls big s r ls _
theorem pc_plain (big : Bool) (s : Nat) : ∀ (h r : List Nat) (l : List Nat), (∀ x ∈ h, ¬ (decide (x ≤ s) == big) = true) → pcIn big s (h ++ r) [] l = pcIn big s r [] (l ++ h)
  | [], r, l, _ => by simp
  | a :: h, r, l, hh => by
    show pcIn big s (a :: (h ++ r)) [] l = _
    rw [pcIn, if_neg (hh a List.mem_cons_self), pc_plain big s h r _ fun x hx => hh x (List.mem_cons_of_mem _ hx)]
    simp
noncomputable def rot1 (p : List Nat) : List Nat := p.drop 1 ++ p.take 1
theorem mov_back (big : Bool) (s : Nat) : ∀ (r held : List Nat), (∀ x ∈ held, ¬ (decide (x ≤ s) == big) = true) → (∀ x, (held ++ r).getLast? = some x → (decide (x ≤ s) == big) = true) →
    (held ++ r = [] ∧ movIn big s r held [] = []) ∨ ∃ a t, movIn big s r held [] = a :: t ∧ (decide (a ≤ s) == big) = true ∧ (pcIn big s t [] [a]).flatMap rot1 = held ++ r
  | [], held, hh, hl => by
    have : held = [] := by
      rcases List.eq_nil_or_concat held with h | ⟨l, a, h⟩
      · exact h
      · subst h; exact absurd (hl a (by simp)) (hh a (by simp))
    subst this; exact .inl ⟨rfl, rfl⟩
  | a :: r, held, hh, hl => by
    unfold movIn
    by_cases h : (decide (a ≤ s) == big) = true
    · rw [if_pos h, mov_laid, rotL_snoc, List.nil_append]
      refine .inr ⟨a, held ++ movIn big s r [] [], rfl, h, ?_⟩
      rw [pc_plain big s held _ _ hh]
      have rh : rot1 ([a] ++ held) = held ++ [a] := rfl
      rcases mov_back big s r [] (fun _ h => nomatch h) (last_tail hl) with ⟨h1, h2⟩ | ⟨b, t, h1, h2, h3⟩
      · rw [List.nil_append] at h1
        rw [h2, h1]
        show rot1 ([a] ++ held) ++ [] = _
        rw [rh, List.append_nil]
      · rw [h1, pcIn, if_pos h2, pc_ls, List.nil_append, List.flatMap_append, h3]
        show (rot1 ([a] ++ held) ++ []) ++ _ = _
        rw [rh]; simp
    · rw [if_neg h]
      have ih := mov_back big s r (held ++ [a]) (fun x hx => by
        rcases List.mem_append.mp hx with q | q
        · exact hh x q
        · rw [List.mem_singleton.mp q]; exact h) (by simpa using hl)
      have e : held ++ [a] ++ r = held ++ a :: r := by simp
      rw [e] at ih
      exact ih
theorem step_back (row : List Nat) (s : Nat) : backRow s (movIn (decide (row.getLastD 0 ≤ s)) s row [] []) = row := by
  rcases mov_back (decide (row.getLastD 0 ≤ s)) s row [] (fun _ h => nomatch h) (step_ok row s) with ⟨h1, h2⟩ | ⟨a, t, h1, h2, h3⟩
  · rw [List.nil_append] at h1
    rw [h2, h1]; rfl
  · rw [h1]
    have e : decide (a ≤ s) = decide (row.getLastD 0 ≤ s) := by simpa using h2
    show (pcIn (decide (a ≤ s)) s t [] [a]).flatMap rot1 = row
    rw [e, h3]; rfl
theorem back_word : ∀ (w word : List Nat), backW w.length (rowOf w) word = w ++ word :=
  snoc_ind (fun word => rfl) fun w s ih word => by
    rw [rowOf_snoc, List.length_append]
    show backW (w.length + 1) (movStep (rowOf w) s) word = _
    unfold movStep
    rw [backW, List.getLast?_concat, List.dropLast_concat]
    show backW w.length (backRow s _) (s :: word) = _
    rw [step_back, ih]; simp
theorem f_told_row (W : List Nat) : toldN (dotsOf W) (sortN W) [] = rowOf W := by
  rw [dots_of, ← sortN_of_perm (row_perm W), told_dots]; rfl
theorem f_back (W : List Nat) : backW (toldN (dotsOf W) (sortN W) []).length (toldN (dotsOf W) (sortN W) []) [] = W := by
  rw [f_told_row, row_len, back_word, List.append_nil]
theorem f_okd (W : List Nat) : okD (dotsOf W) (sortN W).length := by
  rw [dots_of, sortN_len, ← row_len W]
  exact okD_dots _
theorem count_append (y : Str) : ∀ l m : List Str, countS y (l ++ m) = countS y l + countS y m
  | [], m => by simp [countS]
  | x :: l, m => by
    show countS y (x :: (l ++ m)) = _
    rw [countS, countS, count_append y l m]; omega
theorem count_dots : ∀ ds : List Nat, countS ⟨#[46]⟩ ((inter2 13 10 (ds.map fun d => List.replicate d 46)).map fun n => ⟨#[n]⟩) = ds.sum := by
  have rep : ∀ d : Nat, countS ⟨#[46]⟩ ((List.replicate d 46).map fun n => (⟨#[n]⟩ : Str)) = d := by
    intro d
    induction d with
    | zero => rfl
    | succ d ih => rw [List.replicate_succ, List.map_cons, countS, ih, if_pos (by decide)]; omega
  intro ds
  induction ds with
  | nil => rfl
  | cons d ds ih =>
    cases ds with
    | nil => rw [List.map_cons, List.map_nil, inter2, rep]; simp
    | cons e ds =>
      show countS ⟨#[46]⟩ ((List.replicate d 46 ++ 13 :: 10 :: inter2 13 10 ((e :: ds).map fun d => List.replicate d 46)).map fun n => ⟨#[n]⟩) = _
      rw [List.map_append, count_append, rep, List.map_cons, List.map_cons, countS, countS, ih, if_neg (by decide), if_neg (by decide), List.sum_cons (a := d)]; omega
theorem crlf_list : crlfS.cps.toList = [13, 10] := rfl
theorem join_crlf : ∀ l : List Str, (Txt.join crlfS l).cps.toList = inter2 13 10 (l.map fun s => s.cps.toList) := by
  intro l
  show (Builtin.Str.glued crlfS l).cps.toList = _
  rw [glued_eq_join]
  induction l with
  | nil => rfl
  | cons x r ih =>
    cases r with
    | nil => rfl
    | cons y r =>
      show (x ++ crlfS ++ Str.join crlfS (y :: r)).cps.toList = _
      rw [cps_app, cps_app, ih, crlf_list, List.append_assoc]
      rfl
theorem f_count (W : List Nat) : ((countS ⟨#[46]⟩ (chars (Txt.join crlfS ((dotsOf W).map dotsS))) : Nat) : Int) = (W.length : Int) + ((descN W).map Int.ofNat).sum := by
  have e : chars (Txt.join crlfS ((dotsOf W).map dotsS)) = (inter2 13 10 ((dotsOf W).map fun d => List.replicate d 46)).map fun n => ⟨#[n]⟩ := by
    unfold chars
    have : ((dotsOf W).map dotsS).map (fun s => s.cps.toList) = (dotsOf W).map fun d => List.replicate d 46 := by
      rw [List.map_map]
      exact List.map_congr_left fun d _ => dots_list d
    rw [join_crlf, this]
  rw [e, count_dots, dots_of, dots_sum, inv_maj, row_len]
  have hs : ∀ l : List Nat, (l.map Int.ofNat).sum = ((l.sum : Nat) : Int) := by
    intro l
    induction l with
    | nil => rfl
    | cons a l ih => rw [List.map_cons, List.sum_cons, ih, List.sum_cons]; show (a : Int) + _ = _; omega
  rw [hs]; omega
end Mine
end
section
open PySem PySem.W PySem.Calls PyProof.Rows PySem.Spec PySem.StrLaws
set_option maxRecDepth 100000
namespace Mine
noncomputable def okSign (t : Nat) : Bool := decide ((!(Builtin.Str.occurrences hiddenS (sgn t) 0 hiddenS.length 1).isEmpty) = decide ((t : Int) ∈ b1L)) && decide ((Txt.lower (sgn t)).length ≤ 100) && decide ((foldQ t).length ≤ 100)
noncomputable def meansB (t : Nat) (m : List Nat) : Bool := okSign t && !decide ((t : Int) ∈ b1L) && decide ((foldQ t).cps.toList = m) && decide (1 ≤ m.length) && decide (m.length ≤ 3) && m.all fun a => decide (a < 0x110000)
noncomputable def unitM (k : Nat) : List Nat := (Txt.slice (unitsL.getD k ⟨#[]⟩) (some 1) none).cps.toList
theorem unit_ok : ∀ k < 15, meansB (cpAt (unitsL.getD k ⟨#[]⟩) 0) (unitM k) = true := by decide +kernel
theorem let_ok : ∀ k < 6, meansB (cpAt lettersS k) [cpAt lettersS k] = true := by decide +kernel
theorem great_ok : ∀ k < 6, ∀ f < 11, meansB ((greatL.getD f 0).toNat + cpAt lettersS k - 97) [cpAt lettersS k] = true := by decide +kernel
theorem stay_ok : ∀ k < 16, meansB (cpAt staysS k) [cpAt staysS k] = true := by decide +kernel
theorem hid_ok : ∀ k < 27, (okSign (cpAt hiddenS k) && decide (((cpAt hiddenS k : Nat) : Int) ∈ b1L)) = true := by decide +kernel
noncomputable def hidN (n : Nat) : List Nat := if n / 1000 % 100 % 28 = 0 then [] else [cpAt hiddenS (n / 1000 % 100 % 28 - 1)]
noncomputable def signN (n : Nat) : Nat := if n % 10 < 5 then cpAt (unitAt n) 0 else if n % 10 < 8 then (if formAt n = 0 then letAt n else greatAt n) else cpAt staysS (n / 10 % 100 % 16)
noncomputable def meantN (n : Nat) : List Nat := if n % 10 < 5 then unitM (n / 10 % 100 % 15) else if n % 10 < 8 then [letAt n] else [cpAt staysS (n / 10 % 100 % 16)]
theorem means_at (n : Nat) : meansB (signN n) (meantN n) = true := by
  unfold signN meantN
  by_cases h1 : n % 10 < 5
  · rw [if_pos h1, if_pos h1]
    exact unit_ok _ (Nat.mod_lt _ (by decide))
  · rw [if_neg h1, if_neg h1]
    by_cases h2 : n % 10 < 8
    · rw [if_pos h2, if_pos h2]
      have hk : n / 10 % 100 % 6 < 6 := Nat.mod_lt _ (by decide)
      by_cases h3 : formAt n = 0
      · rw [if_pos h3]; exact let_ok _ hk
      · rw [if_neg h3]
        have hf : formAt n < 12 := Nat.mod_lt _ (by decide)
        exact great_ok _ hk (formAt n - 1) (by omega)
    · rw [if_neg h2, if_neg h2]
      exact stay_ok _ (Nat.mod_lt _ (by decide))
theorem hid_at (n : Nat) : ∀ t ∈ hidN n, okSign t = true ∧ (t : Int) ∈ b1L := by
  unfold hidN
  split
  · intro t h; cases h
  · intro t h
    rw [List.mem_singleton.mp h]
    have hk : n / 1000 % 100 % 28 < 28 := Nat.mod_lt _ (by decide)
    have := hid_ok (n / 1000 % 100 % 28 - 1) (by omega)
    rw [Bool.and_eq_true] at this
    exact ⟨this.1, of_decide_eq_true this.2⟩
theorem hid_word (n : Nat) : hidAt n = wordS (hidN n) := by
  unfold hidAt hidN
  split <;> rfl
theorem sign_word (n : Nat) : signAt n = wordS [signN n] := by
  unfold signAt signN
  (repeat' split) <;> rfl
theorem meant_word (n : Nat) : meantAt n = wordS (meantN n) := by
  unfold meantAt meantN
  split
  · exact str_list rfl
  · split <;> rfl
theorem word_app (l m : List Nat) : wordS l ++ wordS m = wordS (l ++ m) := by
  apply Str.ext'
  apply Array.toList_inj.mp
  rw [Str.cps_append]; simp [wordS]
noncomputable def typedN (cs : List Nat) : List Nat := cs.flatMap fun n => hidN n ++ [signN n]
noncomputable def wordN (cs : List Nat) : List Nat := cs.flatMap meantN
theorem typed_word : ∀ (cs x : List Nat), typedL cs (wordS x) = wordS (x ++ typedN cs)
  | [], x => by show wordS x = _; rw [show typedN [] = [] from rfl, List.append_nil]
  | n :: cs, x => by
    show typedL cs ((wordS x ++ hidAt n) ++ signAt n) = _
    rw [hid_word, sign_word, word_app, word_app, typed_word cs]
    congr 1
    show _ = x ++ (hidN n ++ [signN n] ++ typedN cs)
    simp
theorem word_word : ∀ (cs x : List Nat), wordL cs (wordS x) = wordS (x ++ wordN cs)
  | [], x => by show wordS x = _; rw [show wordN [] = [] from rfl, List.append_nil]
  | n :: cs, x => by
    show wordL cs (wordS x ++ meantAt n) = _
    rw [meant_word, word_app, word_word cs]
    congr 1
    show _ = x ++ (meantN n ++ wordN cs)
    simp
theorem means_out {t : Nat} {m : List Nat} (h : meansB t m = true) : okSign t = true ∧ ¬ (t : Int) ∈ b1L ∧ foldB3 t = wordS m ∧ 1 ≤ m.length ∧ m.length ≤ 3 ∧ ∀ a ∈ m, a < 0x110000 := by
  unfold meansB at h
  simp only [Bool.and_eq_true] at h
  obtain ⟨⟨⟨⟨⟨h1, h2⟩, h3⟩, h4⟩, h5⟩, h6⟩ := h
  refine ⟨h1, by simpa using h2, by rw [foldQ_eq]; exact str_list (of_decide_eq_true h3), of_decide_eq_true h4, of_decide_eq_true h5, fun a ha => ?_⟩
  exact of_decide_eq_true (List.all_eq_true.mp h6 a ha)
theorem ok_out {t : Nat} (h : okSign t = true) : (!(Builtin.Str.occurrences hiddenS (sgn t) 0 hiddenS.length 1).isEmpty) = decide ((t : Int) ∈ b1L) ∧ (Txt.lower (sgn t)).length ≤ 100 ∧ (foldB3 t).length ≤ 100 := by
  unfold okSign at h
  simp only [Bool.and_eq_true] at h
  obtain ⟨⟨h1, h2⟩, h3⟩ := h
  exact ⟨of_decide_eq_true h1, of_decide_eq_true h2, by rw [foldQ_eq]; exact of_decide_eq_true h3⟩
theorem typed_mem {cs : List Nat} {t : Nat} (h : t ∈ typedN cs) : okSign t = true := by
  obtain ⟨n, _, hn⟩ := List.mem_flatMap.mp h
  rcases List.mem_append.mp hn with q | q
  · exact (hid_at n t q).1
  · rw [List.mem_singleton.mp q]; exact (means_out (means_at n)).1
theorem seen_skip : ∀ (l r : List Nat) (x : Str), (∀ t ∈ l, (t : Int) ∈ b1L) → seenN (l ++ r) x = seenN r x
  | [], r, x, _ => rfl
  | t :: l, r, x, h => by
    show seenN (l ++ r) (if (t : Int) ∈ b1L then x else x ++ foldB3 t) = _
    rw [if_pos (h t List.mem_cons_self), seen_skip l r x fun u hu => h u (List.mem_cons_of_mem _ hu)]
theorem seen_word : ∀ (cs x : List Nat), seenN (typedN cs) (wordS x) = wordS (x ++ wordN cs)
  | [], x => by show wordS x = _; rw [show wordN [] = [] from rfl, List.append_nil]
  | n :: cs, x => by
    have e : typedN (n :: cs) = hidN n ++ (signN n :: typedN cs) := by show hidN n ++ [signN n] ++ typedN cs = _; simp
    have hm := means_out (means_at n)
    rw [e, seen_skip _ _ _ fun t ht => (hid_at n t ht).2]
    show seenN (typedN cs) (if ((signN n : Nat) : Int) ∈ b1L then wordS x else wordS x ++ foldB3 (signN n)) = _
    rw [if_neg hm.2.1, hm.2.2.1, word_app, seen_word cs]
    congr 1
    show _ = x ++ (meantN n ++ wordN cs)
    simp
theorem typed_size : ∀ cs : List Nat, (typedN cs).length ≤ 2 * cs.length
  | [] => Nat.le_refl _
  | n :: cs => by
    show (hidN n ++ [signN n] ++ typedN cs).length ≤ _
    have := typed_size cs
    have h : (hidN n).length ≤ 1 := by unfold hidN; split <;> simp
    simp only [List.length_append, List.length_cons, List.length_nil]; omega
theorem word_size : ∀ cs : List Nat, cs.length ≤ (wordN cs).length ∧ (wordN cs).length ≤ 3 * cs.length
  | [] => ⟨Nat.le_refl _, Nat.le_refl _⟩
  | n :: cs => by
    have e : (wordN (n :: cs)).length = (meantN n).length + (wordN cs).length := by
      show (meantN n ++ wordN cs).length = _
      rw [List.length_append]
    have := word_size cs
    have h := means_out (means_at n)
    rw [e, List.length_cons]; omega
theorem word_mem {cs : List Nat} {a : Nat} (h : a ∈ wordN cs) : a < 0x110000 := by
  obtain ⟨n, _, hn⟩ := List.mem_flatMap.mp h
  exact (means_out (means_at n)).2.2.2.2.2 a hn
theorem cells_pos {l : List Int} : ∀ x ∈ cellsOf l, 0 ≤ x := by
  intro x hx
  unfold cellsOf at hx
  obtain ⟨k, hk, rfl⟩ := List.mem_map.mp hx
  have h1 : ∀ k < 5, 0 ≤ firstL.getD k 0 := by decide
  have h2 : ∀ m : List Int, 0 ≤ (m.map (·.fmod 1000000)).sum := by
    intro m
    induction m with
    | nil => exact Int.le_refl _
    | cons a m ih =>
      rw [List.map_cons, List.sum_cons]
      have : 0 ≤ a.fmod 1000000 := Int.fmod_nonneg_of_pos a (by decide)
      omega
  have := h1 k (List.mem_range.mp hk)
  have := h2 (pickL l (some (k : Int)) none (some 5))
  omega
theorem cells_nat (l : List Int) : ∃ cs c4, cs.length = 4 ∧ cellsOf l = (cs ++ [c4]).map Int.ofNat := by
  have e : cellsOf l = ((cellsOf l).map Int.toNat).map Int.ofNat := by
    rw [List.map_map]
    conv => lhs; rw [← List.map_id (cellsOf l)]
    refine List.map_congr_left fun x hx => ?_
    have := cells_pos x hx
    show x = ((x.toNat : Nat) : Int)
    omega
  have hl : ((cellsOf l).map Int.toNat).length = 5 := by rw [List.length_map]; unfold cellsOf; rw [List.length_map, List.length_range]
  match q : (cellsOf l).map Int.toNat, hl with
  | [a, b, c, d, f], _ => exact ⟨[a, b, c, d], f, rfl, by rw [e, q]; rfl⟩
theorem law_facts (l : List Int) (hl : l.length ≤ 63) : ∃ cs c4 ts W, LawFacts l cs c4 ts W := by
  obtain ⟨cs, c4, h4, hc⟩ := cells_nat l
  have hsh : c4 % 100 % 22 < 22 := Nat.mod_lt _ (by decide)
  have hw := word_size cs
  have h12 : (wordN cs).length ≤ 12 := by omega
  have e0 : (⟨#[]⟩ : Str) = wordS [] := rfl
  exact ⟨cs, c4, typedN cs, wordN cs, {
    hlen := hl
    cells := hc
    cl := h4
    tl := by have := typed_size cs; omega
    typed := by rw [e0, typed_word]; rfl
    word := by rw [e0, word_word]; rfl
    hid := fun s hs => (ok_out (typed_mem hs)).1
    fold := fun s hs => (ok_out (typed_mem hs)).2
    seen := by rw [e0, seen_word]; rfl
    w1 := by omega
    w12 := h12
    wc := fun a ha => word_mem ha
    plen := f_plen h12 hsh
    pfold := f_pfold h12 hsh
    parts := f_parts h12 hsh
    places := f_places h12 hsh
    rlen := row_len _
    sent := fun k hk => sent_ok (by rw [row_len] at hk; omega)
    okd := f_okd _
    back := f_back _
    count := f_count _
    told := f_told h12 hsh
    far := f_far h12 hsh (by omega) }⟩
end Mine
end
section
open PySem PySem.W PyProof.Rows
set_option maxRecDepth 100000
set_option maxHeartbeats 8000000
namespace Mine
noncomputable section
noncomputable def stAt (i : Nat) : Stmt := match PySem.Challenge.pw_ta0049_01.main.body[i]? with
  | some s => s
  | none => .Pass ⟨0, 0, 0, 0⟩
noncomputable def stP (i : Nat) : Arguments := match stAt i with
  | .FunctionDef _ args _ _ _ _ _ _ _ _ => args
  | _ => ⟨[], [], none, [], [], none, []⟩
noncomputable def stB (i : Nat) : List Stmt := match stAt i with
  | .FunctionDef _ _ body _ _ _ _ _ _ _ => body
  | _ => []
noncomputable def stS (i : Nat) : Scope := match stAt i with
  | .FunctionDef _ _ _ _ _ _ scope _ _ _ => scope
  | _ => PySem.Challenge.pw_ta0049_01.main.scope
noncomputable def en (P : Params) (x : String) (t : Nat) (v : Value) : DictEntry := ⟨PyData.keyHash P (Str.ofString x), .str (Str.ofString x) t, v⟩
noncomputable def wordI : List Nat := PySem.Builtin.chainKey.cps.toList.take 6
noncomputable def keyI (a b : String) : Str := ⟨((Str.ofString a).cps.toList ++ (wordI ++ (Str.ofString b).cps.toList)).toArray⟩
noncomputable def ek (P : Params) (x : Str) (t : Nat) (v : Value) : DictEntry := ⟨PyData.keyHash P x, .str x t, v⟩
namespace myTop
noncomputable def env_1 : Env := { scope := PySem.Challenge.pw_ta0049_01.main.scope, locals := mainNs, globals := mainNs, cells := [], code := .ref 30, frame := some 31 }
noncomputable def o_1 (P : Params) : Obj := ⟨(.type "dict"), none, (.dict ⟨[en P "__name__" 1 (.str (Str.ofString "builtins") 160), en P "__doc__" 2 (.builtin "builtins.__doc__:str#opaque"), en P "__package__" 3 (.builtin "builtins.__package__:str#opaque"), en P "__loader__" 4 (.builtin "builtins.__loader__:shared#opaque"), en P "__spec__" 5 (.builtin "builtins.__spec__#opaque"), en P "__build_class__" 6 (.builtin "__build_class__"), en P "__import__" 7 (.builtin "__import__"), en P "abs" 8 (.builtin "abs"), en P "all" 9 (.builtin "all"), en P "any" 10 (.builtin "any"), en P "ascii" 11 (.builtin "ascii"), en P "bin" 12 (.builtin "bin"), en P "breakpoint" 13 (.builtin "breakpoint"), en P "callable" 14 (.builtin "callable"), en P "chr" 15 (.builtin "chr"), en P "compile" 16 (.builtin "compile"), en P "delattr" 17 (.builtin "delattr"), en P "dir" 18 (.builtin "dir"), en P "divmod" 19 (.builtin "divmod"), en P "eval" 20 (.builtin "eval"), en P "exec" 21 (.builtin "exec"), en P "format" 22 (.builtin "format"), en P "getattr" 23 (.builtin "getattr"), en P "globals" 24 (.builtin "globals"), en P "hasattr" 25 (.builtin "hasattr"), en P "hash" 26 (.builtin "hash"), en P "hex" 27 (.builtin "hex"), en P "id" 28 (.builtin "id"), en P "input" 29 (.builtin "input"), en P "isinstance" 30 (.builtin "isinstance"), en P "issubclass" 31 (.builtin "issubclass"), en P "iter" 32 (.builtin "iter"), en P "aiter" 33 (.builtin "aiter"), en P "len" 34 (.builtin "len"), en P "locals" 35 (.builtin "locals"), en P "max" 36 (.builtin "max"), en P "min" 37 (.builtin "min"), en P "next" 38 (.builtin "next"), en P "anext" 39 (.builtin "anext"), en P "oct" 40 (.builtin "oct"), en P "ord" 41 (.builtin "ord"), en P "pow" 42 (.builtin "pow"), en P "print" 43 (.builtin "print"), en P "repr" 44 (.builtin "repr"), en P "round" 45 (.builtin "round"), en P "setattr" 46 (.builtin "setattr"), en P "sorted" 47 (.builtin "sorted"), en P "sum" 48 (.builtin "sum"), en P "vars" 49 (.builtin "vars"), en P "None" 50 .none, en P "Ellipsis" 51 .ellipsis, en P "NotImplemented" 52 .notImplemented, en P "False" 53 (.bool false), en P "True" 54 (.bool true), en P "bool" 55 (.type "bool"), en P "memoryview" 56 (.type "memoryview"), en P "bytearray" 57 (.type "bytearray"), en P "bytes" 58 (.type "bytes"), en P "classmethod" 59 (.type "classmethod"), en P "complex" 60 (.type "complex"), en P "dict" 61 (.type "dict"), en P "enumerate" 62 (.type "enumerate"), en P "filter" 63 (.type "filter"), en P "float" 64 (.type "float"), en P "frozenset" 65 (.type "frozenset"), en P "property" 66 (.type "property"), en P "int" 67 (.type "int"), en P "list" 68 (.type "list"), en P "map" 69 (.type "map"), en P "object" 70 (.type "object"), en P "range" 71 (.type "range"), en P "reversed" 72 (.type "reversed"), en P "set" 73 (.type "set"), en P "slice" 74 (.type "slice"), en P "staticmethod" 75 (.type "staticmethod"), en P "str" 76 (.type "str"), en P "super" 77 (.type "super"), en P "tuple" 78 (.type "tuple"), en P "type" 79 (.type "type"), en P "zip" 80 (.type "zip"), en P "__debug__" 81 (.bool true), en P "BaseException" 82 (.type "BaseException"), en P "BaseExceptionGroup" 83 (.type "BaseExceptionGroup"), en P "Exception" 84 (.type "Exception"), en P "GeneratorExit" 85 (.type "GeneratorExit"), en P "KeyboardInterrupt" 86 (.type "KeyboardInterrupt"), en P "SystemExit" 87 (.type "SystemExit"), en P "ArithmeticError" 88 (.type "ArithmeticError"), en P "AssertionError" 89 (.type "AssertionError"), en P "AttributeError" 90 (.type "AttributeError"), en P "BufferError" 91 (.type "BufferError"), en P "EOFError" 92 (.type "EOFError"), en P "ImportError" 93 (.type "ImportError"), en P "LookupError" 94 (.type "LookupError"), en P "MemoryError" 95 (.type "MemoryError"), en P "NameError" 96 (.type "NameError"), en P "OSError" 97 (.type "OSError"), en P "ReferenceError" 98 (.type "ReferenceError"), en P "RuntimeError" 99 (.type "RuntimeError"), en P "StopAsyncIteration" 100 (.type "StopAsyncIteration"), en P "StopIteration" 101 (.type "StopIteration"), en P "SyntaxError" 102 (.type "SyntaxError"), en P "SystemError" 103 (.type "SystemError"), en P "TypeError" 104 (.type "TypeError"), en P "ValueError" 105 (.type "ValueError"), en P "Warning" 106 (.type "Warning"), en P "FloatingPointError" 107 (.type "FloatingPointError"), en P "OverflowError" 108 (.type "OverflowError"), en P "ZeroDivisionError" 109 (.type "ZeroDivisionError"), en P "BytesWarning" 110 (.type "BytesWarning"), en P "DeprecationWarning" 111 (.type "DeprecationWarning"), en P "EncodingWarning" 112 (.type "EncodingWarning"), en P "FutureWarning" 113 (.type "FutureWarning"), en P "ImportWarning" 114 (.type "ImportWarning"), en P "PendingDeprecationWarning" 115 (.type "PendingDeprecationWarning"), en P "ResourceWarning" 116 (.type "ResourceWarning"), en P "RuntimeWarning" 117 (.type "RuntimeWarning"), en P "SyntaxWarning" 118 (.type "SyntaxWarning"), en P "UnicodeWarning" 119 (.type "UnicodeWarning"), en P "UserWarning" 120 (.type "UserWarning"), en P "BlockingIOError" 121 (.type "BlockingIOError"), en P "ChildProcessError" 122 (.type "ChildProcessError"), en P "ConnectionError" 123 (.type "ConnectionError"), en P "FileExistsError" 124 (.type "FileExistsError"), en P "FileNotFoundError" 125 (.type "FileNotFoundError"), en P "InterruptedError" 126 (.type "InterruptedError"), en P "IsADirectoryError" 127 (.type "IsADirectoryError"), en P "NotADirectoryError" 128 (.type "NotADirectoryError"), en P "PermissionError" 129 (.type "PermissionError"), en P "ProcessLookupError" 130 (.type "ProcessLookupError"), en P "TimeoutError" 131 (.type "TimeoutError"), en P "IndentationError" 132 (.type "IndentationError"), en P "_IncompleteInputError" 133 (.type "_IncompleteInputError"), en P "IndexError" 134 (.type "IndexError"), en P "KeyError" 135 (.type "KeyError"), en P "ModuleNotFoundError" 136 (.type "ModuleNotFoundError"), en P "NotImplementedError" 137 (.type "NotImplementedError"), en P "PythonFinalizationError" 138 (.type "PythonFinalizationError"), en P "RecursionError" 139 (.type "RecursionError"), en P "UnboundLocalError" 140 (.type "UnboundLocalError"), en P "UnicodeError" 141 (.type "UnicodeError"), en P "BrokenPipeError" 142 (.type "BrokenPipeError"), en P "ConnectionAbortedError" 143 (.type "ConnectionAbortedError"), en P "ConnectionRefusedError" 144 (.type "ConnectionRefusedError"), en P "ConnectionResetError" 145 (.type "ConnectionResetError"), en P "TabError" 146 (.type "TabError"), en P "UnicodeDecodeError" 147 (.type "UnicodeDecodeError"), en P "UnicodeEncodeError" 148 (.type "UnicodeEncodeError"), en P "UnicodeTranslateError" 149 (.type "UnicodeTranslateError"), en P "ExceptionGroup" 150 (.type "ExceptionGroup"), en P "EnvironmentError" 151 (.type "OSError"), en P "IOError" 152 (.type "OSError"), en P "open" 153 (.builtin "open"), en P "quit" 154 (.builtin "builtins.quit#opaque"), en P "exit" 155 (.builtin "builtins.exit#opaque"), en P "copyright" 156 (.builtin "builtins.copyright#opaque"), en P "credits" 157 (.builtin "builtins.credits#opaque"), en P "license" 158 (.builtin "builtins.license#opaque"), en P "help" 159 (.builtin "builtins.help#opaque")]⟩ 159), ⟨[]⟩⟩
noncomputable def o_2 (P : Params) : Obj := ⟨(.type "dict"), none, (.dict ⟨[en P "builtins" 162 (.ref 4), en P "__main__" 163 (.ref 5), en P "_sre" 244 (.ref 12)]⟩ 3), ⟨[]⟩⟩
noncomputable def o_3 (P : Params) : Obj := ⟨.none, none, (.dict ⟨[ek P (keyI "" ".loaded._sre") 183 (.bool true), en P "class._frozen_importlib.BuiltinImporter" 185 (.ref 14), ek P (keyI "watched." "") 206 (.ref 18), en P "class._frozen_importlib.ModuleSpec" 216 (.ref 22), en P "sys.modules.booked-epoch" 245 (.int 3 0), ek P (keyI "" ".later-laid._sre") 270 (.bool true), en P "watched.library" 272 (.ref 27), en P "watched.library-objects" 0 (.str (Str.ofString "\x0c") 0), en P "watched.library-deep._sre" 273 (.str (Str.ofString "\x04\x00\x00\x0b\x04\x00\x00\x0b\x04\x00\x00\x03\x04\x00\x00\x0b\x08\x04dict\x02") 0)]⟩ 9), ⟨[]⟩⟩
noncomputable def o_4 (P : Params) : Obj := ⟨(.type "dict"), none, (.dict ⟨[en P "__name__" 165 (.str (Str.ofString "__main__") 164), en P "__doc__" 166 .none, en P "__package__" 167 .none, en P "__loader__" 168 (.builtin "__main__.__loader__#opaque"), en P "__spec__" 169 .none, en P "__annotations__" 170 (.ref 6), en P "__builtins__" 171 (.ref 4), en P "__file__" 173 (.str (Str.ofString "/claim/cut.py") 172), en P "__cached__" 174 .none, en P "_sre" 275 (.ref 12)]⟩ 10), ⟨[]⟩⟩
noncomputable def o_5 (_ : Params) : Obj := ⟨(.type "module"), (some 0), .plain, ⟨[]⟩⟩
noncomputable def o_6 (_ : Params) : Obj := ⟨(.type "module"), (some 3), .plain, ⟨[]⟩⟩
noncomputable def o_7 (_ : Params) : Obj := ⟨(.type "dict"), none, (.dict ⟨[]⟩ 0), ⟨[]⟩⟩
noncomputable def o_8 (_ : Params) : Obj := ⟨(.type "tuple"), none, (.seq ⟨[]⟩ 0), ⟨[]⟩⟩
noncomputable def o_9 (_ : Params) : Obj := ⟨.none, none, (.fields ⟨[]⟩), ⟨[]⟩⟩
noncomputable def o_10 (_ : Params) : Obj := ⟨(.type "code"), none, (.fields ⟨[(.str (Str.ofString "<module>") 176), (.str (Str.ofString "<module>") 177), (.str (Str.ofString "/claim/cut.py") 178), (.int 1 0), (.int 0 0), (.int 0 0), (.int 0 0), (.int 0 0), (.ref 7), (.bool false), (.int 175 0), (.ref 8), .none, .none, .none, .none, (.int 179 0), (.int 1 0), (.str (Str.ofString "/claim/cut.py") 180)]⟩), ⟨[]⟩⟩
noncomputable def o_11 (_ : Params) : Obj := ⟨(.type "frame"), none, .plain, ⟨[(some (.ref 9)), (some (.ref 3)), (some (.ref 3)), none, (some (.str (Str.ofString "__main__") 164)), none, (some (.ref 0))]⟩⟩
noncomputable def o_12 (P : Params) : Obj := ⟨(.type "dict"), none, (.dict ⟨[en P "__name__" 247 (.str (Str.ofString "_sre") 246), en P "__doc__" 248 .none, en P "__package__" 250 (.str (Str.ofString "") 249), en P "__loader__" 251 (.builtin "off-the-table:_sre.__loader__:shared#opaque"), en P "__spec__" 252 (.builtin "off-the-table:_sre.__spec__:shared#opaque"), en P "compile" 253 (.builtin "_sre.compile"), en P "template" 254 (.builtin "off-the-table:_sre.template:shared#opaque"), en P "getcodesize" 255 (.builtin "off-the-table:_sre.getcodesize:shared#opaque"), en P "ascii_iscased" 256 (.builtin "off-the-table:_sre.ascii_iscased:shared#opaque"), en P "unicode_iscased" 257 (.builtin "off-the-table:_sre.unicode_iscased:shared#opaque"), en P "ascii_tolower" 258 (.builtin "off-the-table:_sre.ascii_tolower:shared#opaque"), en P "unicode_tolower" 259 (.builtin "off-the-table:_sre.unicode_tolower:shared#opaque"), en P "MAGIC" 261 (.int 20230612 260), en P "CODESIZE" 263 (.int 4 262), en P "MAXREPEAT" 265 (.int 4294967295 264), en P "MAXGROUPS" 267 (.int 1073741823 266), en P "copyright" 269 (.str (Str.ofString " SRE 2.2.2 Copyright (c) 1997-2002 by Secret Labs AB ") 268)]⟩ 17), ⟨[]⟩⟩
noncomputable def o_13 (_ : Params) : Obj := ⟨(.type "module"), (some 11), .plain, ⟨[]⟩⟩
noncomputable def o_14 (P : Params) : Obj := ⟨(.type "dict"), none, (.dict ⟨[en P "__module__" 189 (.str (Str.ofString "_frozen_importlib") 186), en P "__firstlineno__" 190 (.int 971 187), en P "__doc__" 191 (.builtin "_frozen_importlib.BuiltinImporter.__doc__:str#opaque"), en P "_ORIGIN" 192 (.str (Str.ofString "built-in") 188), en P "find_spec" 193 (.builtin "_frozen_importlib.BuiltinImporter.find_spec#opaque"), en P "create_module" 194 (.builtin "_frozen_importlib.BuiltinImporter.create_module#opaque"), en P "exec_module" 195 (.builtin "_frozen_importlib.BuiltinImporter.exec_module#opaque"), en P "get_code" 196 (.builtin "_frozen_importlib.BuiltinImporter.get_code#opaque"), en P "get_source" 197 (.builtin "_frozen_importlib.BuiltinImporter.get_source#opaque"), en P "is_package" 198 (.builtin "_frozen_importlib.BuiltinImporter.is_package#opaque"), en P "load_module" 199 (.builtin "_frozen_importlib.BuiltinImporter.load_module#opaque"), en P "__static_attributes__" 200 (.ref 15), en P "__dict__" 202 (.ref 16), en P "__weakref__" 204 (.ref 17)]⟩ 14), ⟨[]⟩⟩
noncomputable def o_15 (_ : Params) : Obj := ⟨(.type "type"), none, (.cls (PySem.ClassData.mk (Str.ofString "BuiltinImporter") [(.type "object")] [(.ref 14), (.type "object")] 13 (Str.ofString "BuiltinImporter") true [] [] false none false)), ⟨[]⟩⟩
noncomputable def o_16 (_ : Params) : Obj := ⟨(.type "tuple"), none, (.seq ⟨[]⟩ 0), ⟨[]⟩⟩
noncomputable def o_17 (_ : Params) : Obj := ⟨(.type "getset_descriptor"), none, (.fields ⟨[(.str (Str.ofString "__dict__") 201), (.ref 14), (.builtin "function.__dict__"), (.builtin "function.__dict__#set")]⟩), ⟨[]⟩⟩
noncomputable def o_18 (_ : Params) : Obj := ⟨(.type "getset_descriptor"), none, (.fields ⟨[(.str (Str.ofString "__weakref__") 203), (.ref 14), (.builtin "ExceptionGroup.__weakref__"), .none]⟩), ⟨[]⟩⟩
noncomputable def o_19 (_ : Params) : Obj := ⟨.none, none, (.seq ⟨[(.int 13 0), (.str (Str.ofString "\x06½\x0a__module__\x06º\x11_frozen_importlib\x06¾\x0f__firstlineno__\x04»\x00ϋ\x06¿\x07__doc__\x094_frozen_importlib.BuiltinImporter.__doc__:str#opaque\x06À\x07_ORIGIN\x06¼\x08built-in\x06Á\x09find_spec\x092_frozen_importlib.BuiltinImporter.find_spec#opaque\x06Â\x0dcreate_module\x096_frozen_importlib.BuiltinImporter.create_module#opaque\x06Ã\x0bexec_module\x094_frozen_importlib.BuiltinImporter.exec_module#opaque\x06Ä\x08get_code\x091_frozen_importlib.BuiltinImporter.get_code#opaque\x06Å\x0aget_source\x093_frozen_importlib.BuiltinImporter.get_source#opaque\x06Æ\x0ais_package\x093_frozen_importlib.BuiltinImporter.is_package#opaque\x06Ç\x0bload_module\x094_frozen_importlib.BuiltinImporter.load_module#opaque\x06È\x15__static_attributes__\x04\x00\x00\x0f\x06Ê\x08__dict__\x04\x00\x00\x10\x06Ì\x0b__weakref__\x04\x00\x00\x11") 0), (.bool true), (.bool true), (.str (Str.ofString "") 205), (.int 21 0), (.str (Str.ofString "\x06ã\x0a__module__\x06Ù\x11_frozen_importlib\x06ä\x0f__firstlineno__\x04Ú\x00Ȳ\x06å\x07__doc__\x09/_frozen_importlib.ModuleSpec.__doc__:str#opaque\x06æ\x08__init__\x09,_frozen_importlib.ModuleSpec.__init__#opaque\x06ç\x08__repr__\x09,_frozen_importlib.ModuleSpec.__repr__#opaque\x06è\x06__eq__\x09*_frozen_importlib.ModuleSpec.__eq__#opaque\x06é\x06cached\x09*_frozen_importlib.ModuleSpec.cached#opaque\x06ê\x06parent\x09*_frozen_importlib.ModuleSpec.parent#opaque\x06ë\x0chas_location\x090_frozen_importlib.ModuleSpec.has_location#opaque\x06ì\x15__static_attributes__\x04\x00\x00\x17\x06î\x08__dict__\x04\x00\x00\x18\x06ð\x0b__weakref__\x04\x00\x00\x19\x06ñ\x08__hash__\x00") 0), (.bool true), (.bool true), (.str (Str.ofString "") 242)]⟩ 1), ⟨[]⟩⟩
noncomputable def o_20 (_ : Params) : Obj := ⟨(.type "list"), none, (.seq ⟨[]⟩ 0), ⟨[]⟩⟩
noncomputable def o_21 (P : Params) : Obj := ⟨(.type "dict"), none, (.dict ⟨[en P "name" 208 (.str (Str.ofString "_sre") 207), en P "loader" 209 (.ref 14), en P "origin" 210 (.str (Str.ofString "built-in") 184), en P "loader_state" 211 .none, en P "submodule_search_locations" 212 .none, en P "_uninitialized_submodules" 213 (.ref 19), en P "_set_fileattr" 214 (.bool false), en P "_cached" 215 .none, en P "_initializing" 243 (.bool false)]⟩ 9), ⟨[]⟩⟩
noncomputable def o_22 (P : Params) : Obj := ⟨(.type "dict"), none, (.dict ⟨[en P "__module__" 227 (.str (Str.ofString "_frozen_importlib") 217), en P "__firstlineno__" 228 (.int 562 218), en P "__doc__" 229 (.builtin "_frozen_importlib.ModuleSpec.__doc__:str#opaque"), en P "__init__" 230 (.builtin "_frozen_importlib.ModuleSpec.__init__#opaque"), en P "__repr__" 231 (.builtin "_frozen_importlib.ModuleSpec.__repr__#opaque"), en P "__eq__" 232 (.builtin "_frozen_importlib.ModuleSpec.__eq__#opaque"), en P "cached" 233 (.builtin "_frozen_importlib.ModuleSpec.cached#opaque"), en P "parent" 234 (.builtin "_frozen_importlib.ModuleSpec.parent#opaque"), en P "has_location" 235 (.builtin "_frozen_importlib.ModuleSpec.has_location#opaque"), en P "__static_attributes__" 236 (.ref 23), en P "__dict__" 238 (.ref 24), en P "__weakref__" 240 (.ref 25), en P "__hash__" 241 .none]⟩ 13), ⟨[]⟩⟩
noncomputable def o_23 (_ : Params) : Obj := ⟨(.type "type"), none, (.cls (PySem.ClassData.mk (Str.ofString "ModuleSpec") [(.type "object")] [(.ref 22), (.type "object")] 21 (Str.ofString "ModuleSpec") true [] [] false none false)), ⟨[]⟩⟩
noncomputable def o_24 (_ : Params) : Obj := ⟨(.type "tuple"), none, (.seq ⟨[(.str (Str.ofString "_cached") 219), (.str (Str.ofString "_set_fileattr") 220), (.str (Str.ofString "_uninitialized_submodules") 221), (.str (Str.ofString "loader") 222), (.str (Str.ofString "loader_state") 223), (.str (Str.ofString "name") 224), (.str (Str.ofString "origin") 225), (.str (Str.ofString "submodule_search_locations") 226)]⟩ 0), ⟨[]⟩⟩
noncomputable def o_25 (_ : Params) : Obj := ⟨(.type "getset_descriptor"), none, (.fields ⟨[(.str (Str.ofString "__dict__") 237), (.ref 22), (.builtin "function.__dict__"), (.builtin "function.__dict__#set")]⟩), ⟨[]⟩⟩
noncomputable def o_26 (_ : Params) : Obj := ⟨(.type "getset_descriptor"), none, (.fields ⟨[(.str (Str.ofString "__weakref__") 239), (.ref 22), (.builtin "ExceptionGroup.__weakref__"), .none]⟩), ⟨[]⟩⟩
noncomputable def o_27 (_ : Params) : Obj := ⟨(.ref 22), (some 20), .plain, ⟨[]⟩⟩
noncomputable def o_28 (_ : Params) : Obj := ⟨.none, none, (.seq ⟨[(.int 11 0), (.str ⟨⟨[6, 247, 8, 95, 95, 110, 97, 109, 101, 95, 95, 6, 246, 4, 95, 115, 114, 101, 6, 248, 7, 95, 95, 100, 111, 99, 95, 95, 0, 6, 250, 11, 95, 95, 112, 97, 99, 107, 97, 103, 101, 95, 95, 6, 249, 0, 6, 251, 10, 95, 95, 108, 111, 97, 100, 101, 114, 95, 95, 4, 0, 0, 14, 6, 252, 8, 95, 95, 115, 112, 101, 99, 95, 95, 4, 0, 0, 26, 6, 253, 7, 99, 111, 109, 112, 105, 108, 101, 9, 12, 95, 115, 114, 101, 46, 99, 111, 109, 112, 105, 108, 101, 6, 254, 8, 116, 101, 109, 112, 108, 97, 116, 101, 9, 13, 95, 115, 114, 101, 46, 116, 101, 109, 112, 108, 97, 116, 101, 6, 255, 11, 103, 101, 116, 99, 111, 100, 101, 115, 105, 122, 101, 9, 16, 95, 115, 114, 101, 46, 103, 101, 116, 99, 111, 100, 101, 115, 105, 122, 101, 6, 256, 13, 97, 115, 99, 105, 105, 95, 105, 115, 99, 97, 115, 101, 100, 9, 18, 95, 115, 114, 101, 46, 97, 115, 99, 105, 105, 95, 105, 115, 99, 97, 115, 101, 100, 6, 257, 15, 117, 110, 105, 99, 111, 100, 101, 95, 105, 115, 99, 97, 115, 101, 100, 9, 20, 95, 115, 114, 101, 46, 117, 110, 105, 99, 111, 100, 101, 95, 105, 115, 99, 97, 115, 101, 100, 6, 258, 13, 97, 115, 99, 105, 105, 95, 116, 111, 108, 111, 119, 101, 114, 9, 18, 95, 115, 114, 101, 46, 97, 115, 99, 105, 105, 95, 116, 111, 108, 111, 119, 101, 114, 6, 259, 15, 117, 110, 105, 99, 111, 100, 101, 95, 116, 111, 108, 111, 119, 101, 114, 9, 20, 95, 115, 114, 101, 46, 117, 110, 105, 99, 111, 100, 101, 95, 116, 111, 108, 111, 119, 101, 114, 6, 261, 5, 77, 65, 71, 73, 67, 4, 260, 0, 20230612, 6, 263, 8, 67, 79, 68, 69, 83, 73, 90, 69, 4, 262, 0, 4, 6, 265, 9, 77, 65, 88, 82, 69, 80, 69, 65, 84, 4, 264, 0, 4294967295, 6, 267, 9, 77, 65, 88, 71, 82, 79, 85, 80, 83, 4, 266, 0, 1073741823, 6, 269, 9, 99, 111, 112, 121, 114, 105, 103, 104, 116, 6, 268, 53, 32, 83, 82, 69, 32, 50, 46, 50, 46, 50, 32, 67, 111, 112, 121, 114, 105, 103, 104, 116, 32, 40, 99, 41, 32, 49, 57, 57, 55, 45, 50, 48, 48, 50, 32, 98, 121, 32, 83, 101, 99, 114, 101, 116, 32, 76, 97, 98, 115, 32, 65, 66, 32]⟩⟩ 0), (.bool true), (.bool false), (.str (Str.ofString "_sre") 271)]⟩ 0), ⟨[]⟩⟩
noncomputable def o_29 (_ : Params) : Obj := ⟨(.type "tuple"), none, (.seq ⟨[]⟩ 0), ⟨[]⟩⟩
noncomputable def o_30 (_ : Params) : Obj := ⟨.none, none, (.fields ⟨[]⟩), ⟨[]⟩⟩
noncomputable def o_31 (_ : Params) : Obj := ⟨(.type "code"), none, (.fields ⟨[(.str (Str.ofString "<module>") 277), (.str (Str.ofString "<module>") 278), (.str (Str.ofString "/claim/cut.py") 279), (.int 1 0), (.int 0 0), (.int 0 0), (.int 0 0), (.int 0 0), (.ref 28), (.bool false), (.int 276 0), (.ref 29), .none, .none, .none, .none, (.int 280 0), (.int 1 0), (.str (Str.ofString "/claim/cut.py") 281)]⟩), ⟨[]⟩⟩
noncomputable def o_32 (_ : Params) : Obj := ⟨(.type "frame"), none, .plain, ⟨[(some (.ref 30)), (some (.ref 3)), (some (.ref 3)), none, (some (.str (Str.ofString "__main__") 164)), none, (some (.ref 0))]⟩⟩
noncomputable def o_33 (P : Params) : Obj := ⟨(.type "dict"), none, (.dict ⟨[en P "__name__" 165 (.str (Str.ofString "cpy313.operator") 394), en P "__doc__" 166 .none, en P "__package__" 167 .none, en P "__loader__" 168 (.builtin "__main__.__loader__#opaque"), en P "__spec__" 169 .none, en P "__annotations__" 170 (.ref 6), en P "__builtins__" 171 (.ref 4), en P "__file__" 173 (.str (Str.ofString "/claim/cut.py") 172), en P "__cached__" 174 .none, en P "_sre" 275 (.ref 12), en P "_twin_re_1" 299 (.ref 36), en P "_twin_re_2" 341 (.ref 41), en P "CRLF" 343 (.str (Str.ofString "\x0d\x0a") 342), en P "quotedata" 350 (.ref 48), en P "COMPILER_FLAG_NAMES" 383 (.ref 49), en P "pretty_flags" 393 (.ref 56)]⟩ 16), ⟨[]⟩⟩
noncomputable def o_34 (_ : Params) : Obj := ⟨.none, none, (.fields ⟨[(.int 6 0), (.int 0 0), (.ref 47), (.int 10 0), (.int 0 0), (.ref 55)]⟩), ⟨[]⟩⟩
noncomputable def o_35 (_ : Params) : Obj := ⟨(.type "list"), none, (.seq ⟨[(.int 14 287), (.int 4 288), (.int 0 289), (.int 1 290), (.int 1 291), (.int 6 292), (.int 1 293), (.int 16 294), (.int 46 295), (.int 1 296)]⟩ 0), ⟨[]⟩⟩
noncomputable def o_36 (_ : Params) : Obj := ⟨(.type "dict"), none, (.dict ⟨[]⟩ 0), ⟨[]⟩⟩
noncomputable def o_37 (_ : Params) : Obj := ⟨(.type "tuple"), none, (.seq ⟨[.none]⟩ 0), ⟨[]⟩⟩
noncomputable def o_38 (_ : Params) : Obj := ⟨(.type "tuple"), none, (.seq ⟨[(.int 14 0), (.int 4 0), (.int 0 0), (.int 1 0), (.int 1 0), (.int 6 0), (.int 1 0), (.int 16 0), (.int 46 0), (.int 1 0)]⟩ 0), ⟨[]⟩⟩
noncomputable def o_39 (_ : Params) : Obj := ⟨(.type "re.Pattern"), none, (.fields ⟨[(.str (Str.ofString "(?m)^\\.") 285), (.int 40 298), (.int 0 0), .none, .none, (.ref 35), (.int 0 0)]⟩), ⟨[]⟩⟩
noncomputable def o_40 (_ : Params) : Obj := ⟨(.type "list"), none, (.seq ⟨[(.int 14 303), (.int 9 304), (.int 4 305), (.int 1 306), (.int 2 307), (.int 16 308), (.int 10 309), (.int 16 310), (.int 13 311), (.int 0 312), (.int 7 313), (.int 7 314), (.int 16 315), (.int 13 316), (.int 16 317), (.int 10 318), (.int 15 319), (.int 18 320), (.int 5 321), (.int 16 322), (.int 10 323), (.int 15 324), (.int 13 325), (.int 11 326), (.int 16 327), (.int 13 328), (.int 5 329), (.int 5 330), (.int 0 331), (.int 16 332), (.int 10 333), (.int 1 334), (.int 15 335), (.int 2 336), (.int 0 337), (.int 1 338)]⟩ 0), ⟨[]⟩⟩
noncomputable def o_41 (_ : Params) : Obj := ⟨(.type "dict"), none, (.dict ⟨[]⟩ 0), ⟨[]⟩⟩
noncomputable def o_42 (_ : Params) : Obj := ⟨(.type "tuple"), none, (.seq ⟨[.none]⟩ 0), ⟨[]⟩⟩
noncomputable def o_43 (_ : Params) : Obj := ⟨(.type "tuple"), none, (.seq ⟨[(.int 14 0), (.int 9 0), (.int 4 0), (.int 1 0), (.int 2 0), (.int 16 0), (.int 10 0), (.int 16 0), (.int 13 0), (.int 0 0), (.int 7 0), (.int 7 0), (.int 16 0), (.int 13 0), (.int 16 0), (.int 10 0), (.int 15 0), (.int 18 0), (.int 5 0), (.int 16 0), (.int 10 0), (.int 15 0), (.int 13 0), (.int 11 0), (.int 16 0), (.int 13 0), (.int 5 0), (.int 5 0), (.int 0 0), (.int 16 0), (.int 10 0), (.int 1 0), (.int 15 0), (.int 2 0), (.int 0 0), (.int 1 0)]⟩ 0), ⟨[]⟩⟩
noncomputable def o_44 (_ : Params) : Obj := ⟨(.type "re.Pattern"), none, (.fields ⟨[(.str (Str.ofString "(?:\\r\\n|\\n|\\r(?!\\n))") 301), (.int 32 340), (.int 0 0), .none, .none, (.ref 40), (.int 0 0)]⟩), ⟨[]⟩⟩
noncomputable def o_45 (_ : Params) : Obj := ⟨(.type "tuple"), none, (.seq ⟨[]⟩ 0), ⟨[]⟩⟩
noncomputable def o_46 (_ : Params) : Obj := ⟨.none, none, (.fields ⟨[]⟩), ⟨[]⟩⟩
noncomputable def o_47 (_ : Params) : Obj := ⟨(.type "tuple"), none, (.seq ⟨[(.str (Str.ofString "data") 347)]⟩ 0), ⟨[]⟩⟩
noncomputable def o_48 (_ : Params) : Obj := ⟨(.type "tuple"), none, (.seq ⟨[]⟩ 0), ⟨[]⟩⟩
noncomputable def o_49 (_ : Params) : Obj := ⟨.none, none, (.func ⟨(Str.ofString "quotedata"), (Str.ofString "quotedata"), stP 5, .stmts (stB 5), stS 5, 0, [], .none, .none, .none, .none, none, .none, .none, 0⟩), ⟨[]⟩⟩
noncomputable def o_50 (_ : Params) : Obj := ⟨(.type "code"), none, (.fields ⟨[(.str (Str.ofString "quotedata") 344), (.str (Str.ofString "quotedata") 345), (.str (Str.ofString "/claim/cut.py") 346), (.int 6 0), (.int 1 0), (.int 0 0), (.int 0 0), (.int 3 0), (.ref 42), (.bool true), (.int 276 0), (.ref 43), .none, (.ref 44), (.ref 45), (.ref 46), (.int 348 0), (.int 6 0), (.str (Str.ofString "/claim/cut.py") 349)]⟩), ⟨[]⟩⟩
noncomputable def o_51 (_ : Params) : Obj := ⟨(.type "function"), none, (.func ⟨(Str.ofString "quotedata"), (Str.ofString "quotedata"), stP 5, .stmts (stB 5), stS 5, 3, [], .none, .none, .none, (.str (Str.ofString "cpy313.smtplib") 282), none, (.ref 47), .none, 0⟩), ⟨[]⟩⟩
noncomputable def o_52 (_ : Params) : Obj := ⟨(.type "dict"), none, (.dict ⟨[⟨1, (.int 1 353), (.str (Str.ofString "OPTIMIZED") 354)⟩, ⟨2, (.int 2 355), (.str (Str.ofString "NEWLOCALS") 356)⟩, ⟨4, (.int 4 357), (.str (Str.ofString "VARARGS") 358)⟩, ⟨8, (.int 8 359), (.str (Str.ofString "VARKEYWORDS") 360)⟩, ⟨16, (.int 16 361), (.str (Str.ofString "NESTED") 362)⟩, ⟨32, (.int 32 363), (.str (Str.ofString "GENERATOR") 364)⟩, ⟨64, (.int 64 365), (.str (Str.ofString "NOFREE") 366)⟩, ⟨128, (.int 128 367), (.str (Str.ofString "COROUTINE") 368)⟩, ⟨256, (.int 256 369), (.str (Str.ofString "ITERABLE_COROUTINE") 370)⟩, ⟨512, (.int 512 371), (.str (Str.ofString "ASYNC_GENERATOR") 372)⟩]⟩ 10), ⟨[]⟩⟩
noncomputable def o_53 (_ : Params) : Obj := ⟨(.type "tuple"), none, (.seq ⟨[]⟩ 0), ⟨[]⟩⟩
noncomputable def o_54 (_ : Params) : Obj := ⟨.none, none, (.fields ⟨[]⟩), ⟨[]⟩⟩
noncomputable def o_55 (_ : Params) : Obj := ⟨(.type "tuple"), none, (.seq ⟨[(.str (Str.ofString "flags") 387), (.str (Str.ofString "names") 388), (.str (Str.ofString "i") 389), (.str (Str.ofString "flag") 390)]⟩ 0), ⟨[]⟩⟩
noncomputable def o_56 (_ : Params) : Obj := ⟨(.type "tuple"), none, (.seq ⟨[]⟩ 0), ⟨[]⟩⟩
noncomputable def o_57 (_ : Params) : Obj := ⟨.none, none, (.func ⟨(Str.ofString "pretty_flags"), (Str.ofString "pretty_flags"), stP 8, .stmts (stB 8), stS 8, 0, [], .none, .none, .none, .none, none, .none, .none, 0⟩), ⟨[]⟩⟩
noncomputable def o_58 (_ : Params) : Obj := ⟨(.type "code"), none, (.fields ⟨[(.str (Str.ofString "pretty_flags") 384), (.str (Str.ofString "pretty_flags") 385), (.str (Str.ofString "/claim/cut.py") 386), (.int 10 0), (.int 1 0), (.int 0 0), (.int 0 0), (.int 3 0), (.ref 50), (.bool true), (.int 276 0), (.ref 51), .none, (.ref 52), (.ref 53), (.ref 54), (.int 391 0), (.int 10 0), (.str (Str.ofString "/claim/cut.py") 392)]⟩), ⟨[]⟩⟩
noncomputable def o_59 (_ : Params) : Obj := ⟨(.type "function"), none, (.func ⟨(Str.ofString "pretty_flags"), (Str.ofString "pretty_flags"), stP 8, .stmts (stB 8), stS 8, 3, [], .none, .none, .none, (.str (Str.ofString "cpy313.dis") 351), none, (.ref 55), .none, 0⟩), ⟨[]⟩⟩
noncomputable def o_63 (P : Params) : Obj := ⟨(.type "dict"), none, (.dict ⟨[en P "__name__" 165 (.str (Str.ofString "cpy313.stringprep") 473), en P "__doc__" 166 .none, en P "__package__" 167 .none, en P "__loader__" 168 (.builtin "__main__.__loader__#opaque"), en P "__spec__" 169 .none, en P "__annotations__" 170 (.ref 6), en P "__builtins__" 171 (.ref 4), en P "__file__" 173 (.str (Str.ofString "/claim/cut.py") 172), en P "__cached__" 174 .none, en P "_sre" 275 (.ref 12), en P "_twin_re_1" 299 (.ref 36), en P "_twin_re_2" 341 (.ref 41), en P "CRLF" 343 (.str (Str.ofString "\x0d\x0a") 342), en P "quotedata" 350 (.ref 48), en P "COMPILER_FLAG_NAMES" 383 (.ref 49), en P "pretty_flags" 393 (.ref 56), en P "le" 403 (.ref 63), en P "eq" 411 (.ref 70), en P "gt" 419 (.ref 77), en P "add" 427 (.ref 84), en P "lshift" 435 (.ref 91), en P "or_" 443 (.ref 98), en P "concat" 452 (.ref 105), en P "countOf" 462 (.ref 112), en P "indexOf" 472 (.ref 119)]⟩ 25), ⟨[]⟩⟩
noncomputable def o_64 (_ : Params) : Obj := ⟨.none, none, (.fields ⟨[(.int 6 0), (.int 0 0), (.ref 47), (.int 10 0), (.int 0 0), (.ref 55), (.int 23 0), (.int 0 0), (.ref 62), (.int 25 0), (.int 0 0), (.ref 69), (.int 27 0), (.int 0 0), (.ref 76), (.int 29 0), (.int 0 0), (.ref 83), (.int 31 0), (.int 0 0), (.ref 90), (.int 33 0), (.int 0 0), (.ref 97), (.int 35 0), (.int 0 0), (.ref 104), (.int 40 0), (.int 0 0), (.ref 111), (.int 46 0), (.int 0 0), (.ref 118)]⟩), ⟨[]⟩⟩
noncomputable def o_65 (_ : Params) : Obj := ⟨(.type "tuple"), none, (.seq ⟨[]⟩ 0), ⟨[]⟩⟩
noncomputable def o_66 (_ : Params) : Obj := ⟨.none, none, (.fields ⟨[]⟩), ⟨[]⟩⟩
noncomputable def o_67 (_ : Params) : Obj := ⟨(.type "tuple"), none, (.seq ⟨[(.str (Str.ofString "a") 399), (.str (Str.ofString "b") 400)]⟩ 0), ⟨[]⟩⟩
noncomputable def o_68 (_ : Params) : Obj := ⟨(.type "tuple"), none, (.seq ⟨[]⟩ 0), ⟨[]⟩⟩
noncomputable def o_69 (_ : Params) : Obj := ⟨.none, none, (.func ⟨(Str.ofString "le"), (Str.ofString "le"), stP 10, .stmts (stB 10), stS 10, 0, [], .none, .none, .none, .none, none, .none, .none, 0⟩), ⟨[]⟩⟩
noncomputable def o_70 (_ : Params) : Obj := ⟨(.type "code"), none, (.fields ⟨[(.str (Str.ofString "le") 396), (.str (Str.ofString "le") 397), (.str (Str.ofString "/claim/cut.py") 398), (.int 23 0), (.int 2 0), (.int 0 0), (.int 0 0), (.int 3 0), (.ref 57), (.bool true), (.int 276 0), (.ref 58), .none, (.ref 59), (.ref 60), (.ref 61), (.int 401 0), (.int 23 0), (.str (Str.ofString "/claim/cut.py") 402)]⟩), ⟨[]⟩⟩
noncomputable def o_71 (_ : Params) : Obj := ⟨(.type "function"), none, (.func ⟨(Str.ofString "le"), (Str.ofString "le"), stP 10, .stmts (stB 10), stS 10, 3, [], .none, .none, .none, (.str (Str.ofString "cpy313.operator") 394), none, (.ref 62), .none, 0⟩), ⟨[]⟩⟩
noncomputable def o_72 (_ : Params) : Obj := ⟨(.type "tuple"), none, (.seq ⟨[]⟩ 0), ⟨[]⟩⟩
noncomputable def o_73 (_ : Params) : Obj := ⟨.none, none, (.fields ⟨[]⟩), ⟨[]⟩⟩
noncomputable def o_74 (_ : Params) : Obj := ⟨(.type "tuple"), none, (.seq ⟨[(.str (Str.ofString "a") 407), (.str (Str.ofString "b") 408)]⟩ 0), ⟨[]⟩⟩
noncomputable def o_75 (_ : Params) : Obj := ⟨(.type "tuple"), none, (.seq ⟨[]⟩ 0), ⟨[]⟩⟩
noncomputable def o_76 (_ : Params) : Obj := ⟨.none, none, (.func ⟨(Str.ofString "eq"), (Str.ofString "eq"), stP 11, .stmts (stB 11), stS 11, 0, [], .none, .none, .none, .none, none, .none, .none, 0⟩), ⟨[]⟩⟩
noncomputable def o_77 (_ : Params) : Obj := ⟨(.type "code"), none, (.fields ⟨[(.str (Str.ofString "eq") 404), (.str (Str.ofString "eq") 405), (.str (Str.ofString "/claim/cut.py") 406), (.int 25 0), (.int 2 0), (.int 0 0), (.int 0 0), (.int 3 0), (.ref 64), (.bool true), (.int 276 0), (.ref 65), .none, (.ref 66), (.ref 67), (.ref 68), (.int 409 0), (.int 25 0), (.str (Str.ofString "/claim/cut.py") 410)]⟩), ⟨[]⟩⟩
noncomputable def o_78 (_ : Params) : Obj := ⟨(.type "function"), none, (.func ⟨(Str.ofString "eq"), (Str.ofString "eq"), stP 11, .stmts (stB 11), stS 11, 3, [], .none, .none, .none, (.str (Str.ofString "cpy313.operator") 394), none, (.ref 69), .none, 0⟩), ⟨[]⟩⟩
noncomputable def o_79 (_ : Params) : Obj := ⟨(.type "tuple"), none, (.seq ⟨[]⟩ 0), ⟨[]⟩⟩
noncomputable def o_80 (_ : Params) : Obj := ⟨.none, none, (.fields ⟨[]⟩), ⟨[]⟩⟩
noncomputable def o_81 (_ : Params) : Obj := ⟨(.type "tuple"), none, (.seq ⟨[(.str (Str.ofString "a") 415), (.str (Str.ofString "b") 416)]⟩ 0), ⟨[]⟩⟩
noncomputable def o_82 (_ : Params) : Obj := ⟨(.type "tuple"), none, (.seq ⟨[]⟩ 0), ⟨[]⟩⟩
noncomputable def o_83 (_ : Params) : Obj := ⟨.none, none, (.func ⟨(Str.ofString "gt"), (Str.ofString "gt"), stP 12, .stmts (stB 12), stS 12, 0, [], .none, .none, .none, .none, none, .none, .none, 0⟩), ⟨[]⟩⟩
noncomputable def o_84 (_ : Params) : Obj := ⟨(.type "code"), none, (.fields ⟨[(.str (Str.ofString "gt") 412), (.str (Str.ofString "gt") 413), (.str (Str.ofString "/claim/cut.py") 414), (.int 27 0), (.int 2 0), (.int 0 0), (.int 0 0), (.int 3 0), (.ref 71), (.bool true), (.int 276 0), (.ref 72), .none, (.ref 73), (.ref 74), (.ref 75), (.int 417 0), (.int 27 0), (.str (Str.ofString "/claim/cut.py") 418)]⟩), ⟨[]⟩⟩
noncomputable def o_85 (_ : Params) : Obj := ⟨(.type "function"), none, (.func ⟨(Str.ofString "gt"), (Str.ofString "gt"), stP 12, .stmts (stB 12), stS 12, 3, [], .none, .none, .none, (.str (Str.ofString "cpy313.operator") 394), none, (.ref 76), .none, 0⟩), ⟨[]⟩⟩
noncomputable def o_86 (_ : Params) : Obj := ⟨(.type "tuple"), none, (.seq ⟨[]⟩ 0), ⟨[]⟩⟩
noncomputable def o_87 (_ : Params) : Obj := ⟨.none, none, (.fields ⟨[]⟩), ⟨[]⟩⟩
noncomputable def o_88 (_ : Params) : Obj := ⟨(.type "tuple"), none, (.seq ⟨[(.str (Str.ofString "a") 423), (.str (Str.ofString "b") 424)]⟩ 0), ⟨[]⟩⟩
noncomputable def o_89 (_ : Params) : Obj := ⟨(.type "tuple"), none, (.seq ⟨[]⟩ 0), ⟨[]⟩⟩
noncomputable def o_90 (_ : Params) : Obj := ⟨.none, none, (.func ⟨(Str.ofString "add"), (Str.ofString "add"), stP 13, .stmts (stB 13), stS 13, 0, [], .none, .none, .none, .none, none, .none, .none, 0⟩), ⟨[]⟩⟩
noncomputable def o_91 (_ : Params) : Obj := ⟨(.type "code"), none, (.fields ⟨[(.str (Str.ofString "add") 420), (.str (Str.ofString "add") 421), (.str (Str.ofString "/claim/cut.py") 422), (.int 29 0), (.int 2 0), (.int 0 0), (.int 0 0), (.int 3 0), (.ref 78), (.bool true), (.int 276 0), (.ref 79), .none, (.ref 80), (.ref 81), (.ref 82), (.int 425 0), (.int 29 0), (.str (Str.ofString "/claim/cut.py") 426)]⟩), ⟨[]⟩⟩
noncomputable def o_92 (_ : Params) : Obj := ⟨(.type "function"), none, (.func ⟨(Str.ofString "add"), (Str.ofString "add"), stP 13, .stmts (stB 13), stS 13, 3, [], .none, .none, .none, (.str (Str.ofString "cpy313.operator") 394), none, (.ref 83), .none, 0⟩), ⟨[]⟩⟩
noncomputable def o_93 (_ : Params) : Obj := ⟨(.type "tuple"), none, (.seq ⟨[]⟩ 0), ⟨[]⟩⟩
noncomputable def o_94 (_ : Params) : Obj := ⟨.none, none, (.fields ⟨[]⟩), ⟨[]⟩⟩
noncomputable def o_95 (_ : Params) : Obj := ⟨(.type "tuple"), none, (.seq ⟨[(.str (Str.ofString "a") 431), (.str (Str.ofString "b") 432)]⟩ 0), ⟨[]⟩⟩
noncomputable def o_96 (_ : Params) : Obj := ⟨(.type "tuple"), none, (.seq ⟨[]⟩ 0), ⟨[]⟩⟩
noncomputable def o_97 (_ : Params) : Obj := ⟨.none, none, (.func ⟨(Str.ofString "lshift"), (Str.ofString "lshift"), stP 14, .stmts (stB 14), stS 14, 0, [], .none, .none, .none, .none, none, .none, .none, 0⟩), ⟨[]⟩⟩
noncomputable def o_98 (_ : Params) : Obj := ⟨(.type "code"), none, (.fields ⟨[(.str (Str.ofString "lshift") 428), (.str (Str.ofString "lshift") 429), (.str (Str.ofString "/claim/cut.py") 430), (.int 31 0), (.int 2 0), (.int 0 0), (.int 0 0), (.int 3 0), (.ref 85), (.bool true), (.int 276 0), (.ref 86), .none, (.ref 87), (.ref 88), (.ref 89), (.int 433 0), (.int 31 0), (.str (Str.ofString "/claim/cut.py") 434)]⟩), ⟨[]⟩⟩
noncomputable def o_99 (_ : Params) : Obj := ⟨(.type "function"), none, (.func ⟨(Str.ofString "lshift"), (Str.ofString "lshift"), stP 14, .stmts (stB 14), stS 14, 3, [], .none, .none, .none, (.str (Str.ofString "cpy313.operator") 394), none, (.ref 90), .none, 0⟩), ⟨[]⟩⟩
noncomputable def o_100 (_ : Params) : Obj := ⟨(.type "tuple"), none, (.seq ⟨[]⟩ 0), ⟨[]⟩⟩
noncomputable def o_101 (_ : Params) : Obj := ⟨.none, none, (.fields ⟨[]⟩), ⟨[]⟩⟩
noncomputable def o_102 (_ : Params) : Obj := ⟨(.type "tuple"), none, (.seq ⟨[(.str (Str.ofString "a") 439), (.str (Str.ofString "b") 440)]⟩ 0), ⟨[]⟩⟩
noncomputable def o_103 (_ : Params) : Obj := ⟨(.type "tuple"), none, (.seq ⟨[]⟩ 0), ⟨[]⟩⟩
noncomputable def o_104 (_ : Params) : Obj := ⟨.none, none, (.func ⟨(Str.ofString "or_"), (Str.ofString "or_"), stP 15, .stmts (stB 15), stS 15, 0, [], .none, .none, .none, .none, none, .none, .none, 0⟩), ⟨[]⟩⟩
noncomputable def o_105 (_ : Params) : Obj := ⟨(.type "code"), none, (.fields ⟨[(.str (Str.ofString "or_") 436), (.str (Str.ofString "or_") 437), (.str (Str.ofString "/claim/cut.py") 438), (.int 33 0), (.int 2 0), (.int 0 0), (.int 0 0), (.int 3 0), (.ref 92), (.bool true), (.int 276 0), (.ref 93), .none, (.ref 94), (.ref 95), (.ref 96), (.int 441 0), (.int 33 0), (.str (Str.ofString "/claim/cut.py") 442)]⟩), ⟨[]⟩⟩
noncomputable def o_106 (_ : Params) : Obj := ⟨(.type "function"), none, (.func ⟨(Str.ofString "or_"), (Str.ofString "or_"), stP 15, .stmts (stB 15), stS 15, 3, [], .none, .none, .none, (.str (Str.ofString "cpy313.operator") 394), none, (.ref 97), .none, 0⟩), ⟨[]⟩⟩
noncomputable def o_107 (_ : Params) : Obj := ⟨(.type "tuple"), none, (.seq ⟨[]⟩ 0), ⟨[]⟩⟩
noncomputable def o_108 (_ : Params) : Obj := ⟨.none, none, (.fields ⟨[]⟩), ⟨[]⟩⟩
noncomputable def o_109 (_ : Params) : Obj := ⟨(.type "tuple"), none, (.seq ⟨[(.str (Str.ofString "a") 447), (.str (Str.ofString "b") 448), (.str (Str.ofString "msg") 449)]⟩ 0), ⟨[]⟩⟩
noncomputable def o_110 (_ : Params) : Obj := ⟨(.type "tuple"), none, (.seq ⟨[]⟩ 0), ⟨[]⟩⟩
noncomputable def o_111 (_ : Params) : Obj := ⟨.none, none, (.func ⟨(Str.ofString "concat"), (Str.ofString "concat"), stP 16, .stmts (stB 16), stS 16, 0, [], .none, .none, .none, .none, none, .none, .none, 0⟩), ⟨[]⟩⟩
noncomputable def o_112 (_ : Params) : Obj := ⟨(.type "code"), none, (.fields ⟨[(.str (Str.ofString "concat") 444), (.str (Str.ofString "concat") 445), (.str (Str.ofString "/claim/cut.py") 446), (.int 35 0), (.int 2 0), (.int 0 0), (.int 0 0), (.int 3 0), (.ref 99), (.bool true), (.int 276 0), (.ref 100), .none, (.ref 101), (.ref 102), (.ref 103), (.int 450 0), (.int 35 0), (.str (Str.ofString "/claim/cut.py") 451)]⟩), ⟨[]⟩⟩
noncomputable def o_113 (_ : Params) : Obj := ⟨(.type "function"), none, (.func ⟨(Str.ofString "concat"), (Str.ofString "concat"), stP 16, .stmts (stB 16), stS 16, 3, [], .none, .none, .none, (.str (Str.ofString "cpy313.operator") 394), none, (.ref 104), .none, 0⟩), ⟨[]⟩⟩
noncomputable def o_114 (_ : Params) : Obj := ⟨(.type "tuple"), none, (.seq ⟨[]⟩ 0), ⟨[]⟩⟩
noncomputable def o_115 (_ : Params) : Obj := ⟨.none, none, (.fields ⟨[]⟩), ⟨[]⟩⟩
noncomputable def o_116 (_ : Params) : Obj := ⟨(.type "tuple"), none, (.seq ⟨[(.str (Str.ofString "a") 456), (.str (Str.ofString "b") 457), (.str (Str.ofString "count") 458), (.str (Str.ofString "i") 459)]⟩ 0), ⟨[]⟩⟩
noncomputable def o_117 (_ : Params) : Obj := ⟨(.type "tuple"), none, (.seq ⟨[]⟩ 0), ⟨[]⟩⟩
noncomputable def o_118 (_ : Params) : Obj := ⟨.none, none, (.func ⟨(Str.ofString "countOf"), (Str.ofString "countOf"), stP 17, .stmts (stB 17), stS 17, 0, [], .none, .none, .none, .none, none, .none, .none, 0⟩), ⟨[]⟩⟩
noncomputable def o_119 (_ : Params) : Obj := ⟨(.type "code"), none, (.fields ⟨[(.str (Str.ofString "countOf") 453), (.str (Str.ofString "countOf") 454), (.str (Str.ofString "/claim/cut.py") 455), (.int 40 0), (.int 2 0), (.int 0 0), (.int 0 0), (.int 3 0), (.ref 106), (.bool true), (.int 276 0), (.ref 107), .none, (.ref 108), (.ref 109), (.ref 110), (.int 460 0), (.int 40 0), (.str (Str.ofString "/claim/cut.py") 461)]⟩), ⟨[]⟩⟩
noncomputable def o_120 (_ : Params) : Obj := ⟨(.type "function"), none, (.func ⟨(Str.ofString "countOf"), (Str.ofString "countOf"), stP 17, .stmts (stB 17), stS 17, 3, [], .none, .none, .none, (.str (Str.ofString "cpy313.operator") 394), none, (.ref 111), .none, 0⟩), ⟨[]⟩⟩
noncomputable def o_121 (_ : Params) : Obj := ⟨(.type "tuple"), none, (.seq ⟨[]⟩ 0), ⟨[]⟩⟩
noncomputable def o_122 (_ : Params) : Obj := ⟨.none, none, (.fields ⟨[]⟩), ⟨[]⟩⟩
noncomputable def o_123 (_ : Params) : Obj := ⟨(.type "tuple"), none, (.seq ⟨[(.str (Str.ofString "a") 466), (.str (Str.ofString "b") 467), (.str (Str.ofString "i") 468), (.str (Str.ofString "j") 469)]⟩ 0), ⟨[]⟩⟩
noncomputable def o_124 (_ : Params) : Obj := ⟨(.type "tuple"), none, (.seq ⟨[]⟩ 0), ⟨[]⟩⟩
noncomputable def o_125 (_ : Params) : Obj := ⟨.none, none, (.func ⟨(Str.ofString "indexOf"), (Str.ofString "indexOf"), stP 18, .stmts (stB 18), stS 18, 0, [], .none, .none, .none, .none, none, .none, .none, 0⟩), ⟨[]⟩⟩
noncomputable def o_126 (_ : Params) : Obj := ⟨(.type "code"), none, (.fields ⟨[(.str (Str.ofString "indexOf") 463), (.str (Str.ofString "indexOf") 464), (.str (Str.ofString "/claim/cut.py") 465), (.int 46 0), (.int 2 0), (.int 0 0), (.int 0 0), (.int 3 0), (.ref 113), (.bool true), (.int 276 0), (.ref 114), .none, (.ref 115), (.ref 116), (.ref 117), (.int 470 0), (.int 46 0), (.str (Str.ofString "/claim/cut.py") 471)]⟩), ⟨[]⟩⟩
noncomputable def o_127 (_ : Params) : Obj := ⟨(.type "function"), none, (.func ⟨(Str.ofString "indexOf"), (Str.ofString "indexOf"), stP 18, .stmts (stB 18), stS 18, 3, [], .none, .none, .none, (.str (Str.ofString "cpy313.operator") 394), none, (.ref 118), .none, 0⟩), ⟨[]⟩⟩
noncomputable def tree_32 (P : Params) : BT := (.node (o_1 P) (.node (o_2 P) (.node (o_4 P) (.node (o_8 P) (.node (o_16 P) (.node (o_32 P) .nil .nil) .nil) (.node (o_24 P) .nil .nil)) (.node (o_12 P) (.node (o_20 P) .nil .nil) (.node (o_28 P) .nil .nil))) (.node (o_6 P) (.node (o_10 P) (.node (o_18 P) .nil .nil) (.node (o_26 P) .nil .nil)) (.node (o_14 P) (.node (o_22 P) .nil .nil) (.node (o_30 P) .nil .nil)))) (.node (o_3 P) (.node (o_5 P) (.node (o_9 P) (.node (o_17 P) .nil .nil) (.node (o_25 P) .nil .nil)) (.node (o_13 P) (.node (o_21 P) .nil .nil) (.node (o_29 P) .nil .nil))) (.node (o_7 P) (.node (o_11 P) (.node (o_19 P) .nil .nil) (.node (o_27 P) .nil .nil)) (.node (o_15 P) (.node (o_23 P) .nil .nil) (.node (o_31 P) .nil .nil)))))
noncomputable def tree_59 (P : Params) : BT := (((((((((((((((((((((((((((((tree_32 P).set 3 fun _ => o_33 P)).set 29 fun _ => o_34 P)).ins 32 (o_35 P)).ins 33 (o_36 P)).ins 34 (o_37 P)).ins 35 (o_38 P)).ins 36 (o_39 P)).ins 37 (o_40 P)).ins 38 (o_41 P)).ins 39 (o_42 P)).ins 40 (o_43 P)).ins 41 (o_44 P)).ins 42 (o_45 P)).ins 43 (o_46 P)).ins 44 (o_47 P)).ins 45 (o_48 P)).ins 46 (o_49 P)).ins 47 (o_50 P)).ins 48 (o_51 P)).ins 49 (o_52 P)).ins 50 (o_53 P)).ins 51 (o_54 P)).ins 52 (o_55 P)).ins 53 (o_56 P)).ins 54 (o_57 P)).ins 55 (o_58 P)).ins 56 (o_59 P)
noncomputable def tree_127 (P : Params) : BT := (((((((((((((((((((((((((((((((((((((((((((((((((((((((((((((((((((tree_59 P).set 3 fun _ => o_63 P)).set 29 fun _ => o_64 P)).ins 57 (o_65 P)).ins 58 (o_66 P)).ins 59 (o_67 P)).ins 60 (o_68 P)).ins 61 (o_69 P)).ins 62 (o_70 P)).ins 63 (o_71 P)).ins 64 (o_72 P)).ins 65 (o_73 P)).ins 66 (o_74 P)).ins 67 (o_75 P)).ins 68 (o_76 P)).ins 69 (o_77 P)).ins 70 (o_78 P)).ins 71 (o_79 P)).ins 72 (o_80 P)).ins 73 (o_81 P)).ins 74 (o_82 P)).ins 75 (o_83 P)).ins 76 (o_84 P)).ins 77 (o_85 P)).ins 78 (o_86 P)).ins 79 (o_87 P)).ins 80 (o_88 P)).ins 81 (o_89 P)).ins 82 (o_90 P)).ins 83 (o_91 P)).ins 84 (o_92 P)).ins 85 (o_93 P)).ins 86 (o_94 P)).ins 87 (o_95 P)).ins 88 (o_96 P)).ins 89 (o_97 P)).ins 90 (o_98 P)).ins 91 (o_99 P)).ins 92 (o_100 P)).ins 93 (o_101 P)).ins 94 (o_102 P)).ins 95 (o_103 P)).ins 96 (o_104 P)).ins 97 (o_105 P)).ins 98 (o_106 P)).ins 99 (o_107 P)).ins 100 (o_108 P)).ins 101 (o_109 P)).ins 102 (o_110 P)).ins 103 (o_111 P)).ins 104 (o_112 P)).ins 105 (o_113 P)).ins 106 (o_114 P)).ins 107 (o_115 P)).ins 108 (o_116 P)).ins 109 (o_117 P)).ins 110 (o_118 P)).ins 111 (o_119 P)).ins 112 (o_120 P)).ins 113 (o_121 P)).ins 114 (o_122 P)).ins 115 (o_123 P)).ins 116 (o_124 P)).ins 117 (o_125 P)).ins 118 (o_126 P)).ins 119 (o_127 P)
noncomputable def sts_32 : List Stmt := [stAt 1, stAt 2, stAt 3, stAt 4, stAt 5, stAt 6, stAt 7, stAt 8, stAt 9]
noncomputable def sts_63 : List Stmt := [stAt 10, stAt 11, stAt 12, stAt 13, stAt 14, stAt 15, stAt 16, stAt 17, stAt 18, stAt 19]
noncomputable def Sg1 (w : World) : Prop :=
  (fun (os : OsState) => segRunT treeTable PySem.Challenge.pw_ta0049_01 w 28 (some (.ref 6)) 1 382 ⟨tree_32 w.params, 32, {}, ⟨[]⟩, {}, 282, os⟩
    (piecesOf sts_32 env_1 (.body (behindTheImports PySem.Challenge.pw_ta0049_01) env_1) ⟨0, 0, 0, 0⟩ [topFrame ⟨0, 0, 0, 0⟩]))
  = fun os => some (.next, ⟨tree_59 w.params, 57, {}, ⟨[]⟩, {}, 396, os⟩, .body (behindTheImports PySem.Challenge.pw_ta0049_01) env_1, ⟨22, 0, 22, 8⟩)
noncomputable def Sg2 (w : World) : Prop :=
  (fun (os : OsState) => segRunT treeTable PySem.Challenge.pw_ta0049_01 w 28 (some (.ref 6)) 1 285 ⟨tree_59 w.params, 57, {}, ⟨[]⟩, {}, 396, os⟩
    (piecesOf sts_63 env_1 (.body (behindTheImports PySem.Challenge.pw_ta0049_01) env_1) ⟨22, 0, 22, 8⟩ [topFrame ⟨0, 0, 0, 0⟩]))
  = fun os => some (.next, ⟨tree_127 w.params, 120, {}, ⟨[]⟩, {}, 475, os⟩, .body (behindTheImports PySem.Challenge.pw_ta0049_01) env_1, ⟨52, 0, 52, 8⟩)
end myTop
end
theorem sg1_false (w : World) : myTop.Sg1 (w.withFollow "special-get-raises" false) := by
  unfold myTop.Sg1
  rw [Fast.te10110043849684766642, Fast.te14364793385576792824]
  kernel_rfl
theorem sg1_true (w : World) : myTop.Sg1 (w.withFollow "special-get-raises" true) := by
  unfold myTop.Sg1
  rw [Fast.te10110043849684766642, Fast.te14364793385576792824]
  kernel_rfl
theorem sg1 (w : World) : myTop.Sg1 w := byRow2 "special-get-raises" sg1_false sg1_true w
theorem sg2 (w : World) : myTop.Sg2 w := by
  unfold myTop.Sg2
  rw [Fast.te10110043849684766642, Fast.te14364793385576792824]
  kernel_rfl
end Mine
end
section
open PySem PySem.W PyProof.Rows
set_option maxRecDepth 100000
set_option maxHeartbeats 0
namespace Mine
noncomputable section
noncomputable def keyC : Option Expr → Int
  | some (.Constant (.int i) _ _) => i
  | _ => 0
noncomputable def valC : Expr → Str
  | .Constant (.str x) _ _ => x
  | _ => ⟨⟨[]⟩⟩
noncomputable def b3tk (i : Nat) : Nat := match Nat.blt i 646 with
  | true => 542 + 3 * i
  | false => 2480 + 2 * (i - 646)
noncomputable def b3K : List Expr := match stAt 22 with
  | .Assign _ (.Dict ks _ _) _ => ks.map fun k => match k with
    | some e => e
    | none => .Constant .none 0 ⟨0, 0, 0, 0⟩
  | _ => []
noncomputable def b3V : List Expr := match stAt 22 with
  | .Assign _ (.Dict _ vs _) _ => vs
  | _ => []
noncomputable def b3Pos : Pos := ⟨56, 16, 56, 8704⟩
noncomputable def prS (p : Expr × Expr) : Sem Value × Sem Value := (eval p.1 myTop.env_1, do let x ← eval p.2 myTop.env_1; standAt b3Pos; pure x)
noncomputable def prL : List (Expr × Expr) := b3K.zip b3V
noncomputable def prR (j : Nat) : List (Sem Value × Sem Value) := ((prL.drop (17 * j)).take 16).map prS
noncomputable def prA (j : Nat) : Sem Value × Sem Value := match prL.drop (17 * j + 16) with
  | p :: _ => prS p
  | [] => (pure .none, pure .none)
noncomputable def entAt (l : List (Expr × Expr)) (r i : Nat) : DictEntry := match l.drop r with
  | (k, v) :: _ => ⟨keyC (some k), .int (keyC (some k)) (b3tk i), .str (valC v) (b3tk i + 1)⟩
  | [] => ⟨0, .none, .none⟩
noncomputable def pc0 : List (Expr × Expr) := prL
noncomputable def pc1 : List (Expr × Expr) := pc0.drop 17
noncomputable def pc2 : List (Expr × Expr) := pc1.drop 17
noncomputable def pc3 : List (Expr × Expr) := pc2.drop 17
noncomputable def pc4 : List (Expr × Expr) := pc3.drop 17
noncomputable def pc5 : List (Expr × Expr) := pc4.drop 17
noncomputable def pc6 : List (Expr × Expr) := pc5.drop 17
noncomputable def pc7 : List (Expr × Expr) := pc6.drop 17
noncomputable def pc8 : List (Expr × Expr) := pc7.drop 17
noncomputable def pc9 : List (Expr × Expr) := pc8.drop 17
noncomputable def pc10 : List (Expr × Expr) := pc9.drop 17
noncomputable def pc11 : List (Expr × Expr) := pc10.drop 17
noncomputable def pc12 : List (Expr × Expr) := pc11.drop 17
noncomputable def pc13 : List (Expr × Expr) := pc12.drop 17
noncomputable def pc14 : List (Expr × Expr) := pc13.drop 17
noncomputable def pc15 : List (Expr × Expr) := pc14.drop 17
noncomputable def pc16 : List (Expr × Expr) := pc15.drop 17
noncomputable def pc17 : List (Expr × Expr) := pc16.drop 17
noncomputable def pc18 : List (Expr × Expr) := pc17.drop 17
noncomputable def pc19 : List (Expr × Expr) := pc18.drop 17
noncomputable def pc20 : List (Expr × Expr) := pc19.drop 17
noncomputable def pc21 : List (Expr × Expr) := pc20.drop 17
noncomputable def pc22 : List (Expr × Expr) := pc21.drop 17
noncomputable def pc23 : List (Expr × Expr) := pc22.drop 17
noncomputable def pc24 : List (Expr × Expr) := pc23.drop 17
noncomputable def pc25 : List (Expr × Expr) := pc24.drop 17
noncomputable def pc26 : List (Expr × Expr) := pc25.drop 17
noncomputable def pc27 : List (Expr × Expr) := pc26.drop 17
noncomputable def pc28 : List (Expr × Expr) := pc27.drop 17
noncomputable def pc29 : List (Expr × Expr) := pc28.drop 17
noncomputable def pc30 : List (Expr × Expr) := pc29.drop 17
noncomputable def pc31 : List (Expr × Expr) := pc30.drop 17
noncomputable def pc32 : List (Expr × Expr) := pc31.drop 17
noncomputable def pc33 : List (Expr × Expr) := pc32.drop 17
noncomputable def pc34 : List (Expr × Expr) := pc33.drop 17
noncomputable def pc35 : List (Expr × Expr) := pc34.drop 17
noncomputable def pc36 : List (Expr × Expr) := pc35.drop 17
noncomputable def pc37 : List (Expr × Expr) := pc36.drop 17
noncomputable def pc38 : List (Expr × Expr) := pc37.drop 17
noncomputable def chk (l : List (Expr × Expr)) (i : Nat) (t : List DictEntry) : List DictEntry := entAt l 0 (i + 0) :: entAt l 1 (i + 1) :: entAt l 2 (i + 2) :: entAt l 3 (i + 3) :: entAt l 4 (i + 4) :: entAt l 5 (i + 5) :: entAt l 6 (i + 6) :: entAt l 7 (i + 7) :: entAt l 8 (i + 8) :: entAt l 9 (i + 9) :: entAt l 10 (i + 10) :: entAt l 11 (i + 11) :: entAt l 12 (i + 12) :: entAt l 13 (i + 13) :: entAt l 14 (i + 14) :: entAt l 15 (i + 15) :: entAt l 16 (i + 16) :: t
noncomputable def ck0 (t : List DictEntry) : List DictEntry := chk pc0 0 t
noncomputable def ck1 (t : List DictEntry) : List DictEntry := chk pc1 17 t
noncomputable def ck2 (t : List DictEntry) : List DictEntry := chk pc2 34 t
noncomputable def ck3 (t : List DictEntry) : List DictEntry := chk pc3 51 t
noncomputable def ck4 (t : List DictEntry) : List DictEntry := chk pc4 68 t
noncomputable def ck5 (t : List DictEntry) : List DictEntry := chk pc5 85 t
noncomputable def ck6 (t : List DictEntry) : List DictEntry := chk pc6 102 t
noncomputable def ck7 (t : List DictEntry) : List DictEntry := chk pc7 119 t
noncomputable def ck8 (t : List DictEntry) : List DictEntry := chk pc8 136 t
noncomputable def ck9 (t : List DictEntry) : List DictEntry := chk pc9 153 t
noncomputable def ck10 (t : List DictEntry) : List DictEntry := chk pc10 170 t
noncomputable def ck11 (t : List DictEntry) : List DictEntry := chk pc11 187 t
noncomputable def ck12 (t : List DictEntry) : List DictEntry := chk pc12 204 t
noncomputable def ck13 (t : List DictEntry) : List DictEntry := chk pc13 221 t
noncomputable def ck14 (t : List DictEntry) : List DictEntry := chk pc14 238 t
noncomputable def ck15 (t : List DictEntry) : List DictEntry := chk pc15 255 t
noncomputable def ck16 (t : List DictEntry) : List DictEntry := chk pc16 272 t
noncomputable def ck17 (t : List DictEntry) : List DictEntry := chk pc17 289 t
noncomputable def ck18 (t : List DictEntry) : List DictEntry := chk pc18 306 t
noncomputable def ck19 (t : List DictEntry) : List DictEntry := chk pc19 323 t
noncomputable def ck20 (t : List DictEntry) : List DictEntry := chk pc20 340 t
noncomputable def ck21 (t : List DictEntry) : List DictEntry := chk pc21 357 t
noncomputable def ck22 (t : List DictEntry) : List DictEntry := chk pc22 374 t
noncomputable def ck23 (t : List DictEntry) : List DictEntry := chk pc23 391 t
noncomputable def ck24 (t : List DictEntry) : List DictEntry := chk pc24 408 t
noncomputable def ck25 (t : List DictEntry) : List DictEntry := chk pc25 425 t
noncomputable def ck26 (t : List DictEntry) : List DictEntry := chk pc26 442 t
noncomputable def ck27 (t : List DictEntry) : List DictEntry := chk pc27 459 t
noncomputable def ck28 (t : List DictEntry) : List DictEntry := chk pc28 476 t
noncomputable def ck29 (t : List DictEntry) : List DictEntry := chk pc29 493 t
noncomputable def ck30 (t : List DictEntry) : List DictEntry := chk pc30 510 t
noncomputable def ck31 (t : List DictEntry) : List DictEntry := chk pc31 527 t
noncomputable def ck32 (t : List DictEntry) : List DictEntry := chk pc32 544 t
noncomputable def ck33 (t : List DictEntry) : List DictEntry := chk pc33 561 t
noncomputable def ck34 (t : List DictEntry) : List DictEntry := chk pc34 578 t
noncomputable def ck35 (t : List DictEntry) : List DictEntry := chk pc35 595 t
noncomputable def ck36 (t : List DictEntry) : List DictEntry := chk pc36 612 t
noncomputable def ck37 (t : List DictEntry) : List DictEntry := chk pc37 629 t
noncomputable def ck38 (t : List DictEntry) : List DictEntry := entAt pc38 0 646 :: entAt pc38 1 647 :: entAt pc38 2 648 :: entAt pc38 3 649 :: t
noncomputable def m39 (_ : Params) : Obj := ⟨.type "dict", none, .dict ⟨ck0 (ck1 (ck2 (ck3 (ck4 (ck5 (ck6 (ck7 (ck8 (ck9 (ck10 (ck11 (ck12 (ck13 (ck14 (ck15 (ck16 (ck17 (ck18 (ck19 (ck20 (ck21 (ck22 (ck23 (ck24 (ck25 (ck26 (ck27 (ck28 (ck29 (ck30 (ck31 (ck32 (ck33 (ck34 (ck35 (ck36 (ck37 (ck38 []))))))))))))))))))))))))))))))))))))))⟩ 650, ⟨[]⟩⟩
noncomputable def s1 (_ : Params) : Obj := ⟨.type "dict", none, .dict ⟨ck1 []⟩ 17, ⟨[]⟩⟩
noncomputable def s2 (_ : Params) : Obj := ⟨.type "dict", none, .dict ⟨ck2 []⟩ 17, ⟨[]⟩⟩
noncomputable def s3 (_ : Params) : Obj := ⟨.type "dict", none, .dict ⟨ck3 []⟩ 17, ⟨[]⟩⟩
noncomputable def s4 (_ : Params) : Obj := ⟨.type "dict", none, .dict ⟨ck4 []⟩ 17, ⟨[]⟩⟩
noncomputable def s5 (_ : Params) : Obj := ⟨.type "dict", none, .dict ⟨ck5 []⟩ 17, ⟨[]⟩⟩
noncomputable def s6 (_ : Params) : Obj := ⟨.type "dict", none, .dict ⟨ck6 []⟩ 17, ⟨[]⟩⟩
noncomputable def s7 (_ : Params) : Obj := ⟨.type "dict", none, .dict ⟨ck7 []⟩ 17, ⟨[]⟩⟩
noncomputable def s8 (_ : Params) : Obj := ⟨.type "dict", none, .dict ⟨ck8 []⟩ 17, ⟨[]⟩⟩
noncomputable def s9 (_ : Params) : Obj := ⟨.type "dict", none, .dict ⟨ck9 []⟩ 17, ⟨[]⟩⟩
noncomputable def s10 (_ : Params) : Obj := ⟨.type "dict", none, .dict ⟨ck10 []⟩ 17, ⟨[]⟩⟩
noncomputable def s11 (_ : Params) : Obj := ⟨.type "dict", none, .dict ⟨ck11 []⟩ 17, ⟨[]⟩⟩
noncomputable def s12 (_ : Params) : Obj := ⟨.type "dict", none, .dict ⟨ck12 []⟩ 17, ⟨[]⟩⟩
noncomputable def s13 (_ : Params) : Obj := ⟨.type "dict", none, .dict ⟨ck13 []⟩ 17, ⟨[]⟩⟩
noncomputable def s14 (_ : Params) : Obj := ⟨.type "dict", none, .dict ⟨ck14 []⟩ 17, ⟨[]⟩⟩
noncomputable def s15 (_ : Params) : Obj := ⟨.type "dict", none, .dict ⟨ck15 []⟩ 17, ⟨[]⟩⟩
noncomputable def s16 (_ : Params) : Obj := ⟨.type "dict", none, .dict ⟨ck16 []⟩ 17, ⟨[]⟩⟩
noncomputable def s17 (_ : Params) : Obj := ⟨.type "dict", none, .dict ⟨ck17 []⟩ 17, ⟨[]⟩⟩
noncomputable def s18 (_ : Params) : Obj := ⟨.type "dict", none, .dict ⟨ck18 []⟩ 17, ⟨[]⟩⟩
noncomputable def s19 (_ : Params) : Obj := ⟨.type "dict", none, .dict ⟨ck19 []⟩ 17, ⟨[]⟩⟩
noncomputable def s20 (_ : Params) : Obj := ⟨.type "dict", none, .dict ⟨ck20 []⟩ 17, ⟨[]⟩⟩
noncomputable def s21 (_ : Params) : Obj := ⟨.type "dict", none, .dict ⟨ck21 []⟩ 17, ⟨[]⟩⟩
noncomputable def s22 (_ : Params) : Obj := ⟨.type "dict", none, .dict ⟨ck22 []⟩ 17, ⟨[]⟩⟩
noncomputable def s23 (_ : Params) : Obj := ⟨.type "dict", none, .dict ⟨ck23 []⟩ 17, ⟨[]⟩⟩
noncomputable def s24 (_ : Params) : Obj := ⟨.type "dict", none, .dict ⟨ck24 []⟩ 17, ⟨[]⟩⟩
noncomputable def s25 (_ : Params) : Obj := ⟨.type "dict", none, .dict ⟨ck25 []⟩ 17, ⟨[]⟩⟩
noncomputable def s26 (_ : Params) : Obj := ⟨.type "dict", none, .dict ⟨ck26 []⟩ 17, ⟨[]⟩⟩
noncomputable def s27 (_ : Params) : Obj := ⟨.type "dict", none, .dict ⟨ck27 []⟩ 17, ⟨[]⟩⟩
noncomputable def s28 (_ : Params) : Obj := ⟨.type "dict", none, .dict ⟨ck28 []⟩ 17, ⟨[]⟩⟩
noncomputable def s29 (_ : Params) : Obj := ⟨.type "dict", none, .dict ⟨ck29 []⟩ 17, ⟨[]⟩⟩
noncomputable def s30 (_ : Params) : Obj := ⟨.type "dict", none, .dict ⟨ck30 []⟩ 17, ⟨[]⟩⟩
noncomputable def s31 (_ : Params) : Obj := ⟨.type "dict", none, .dict ⟨ck31 []⟩ 17, ⟨[]⟩⟩
noncomputable def s32 (_ : Params) : Obj := ⟨.type "dict", none, .dict ⟨ck32 []⟩ 17, ⟨[]⟩⟩
noncomputable def s33 (_ : Params) : Obj := ⟨.type "dict", none, .dict ⟨ck33 []⟩ 17, ⟨[]⟩⟩
noncomputable def s34 (_ : Params) : Obj := ⟨.type "dict", none, .dict ⟨ck34 []⟩ 17, ⟨[]⟩⟩
noncomputable def s35 (_ : Params) : Obj := ⟨.type "dict", none, .dict ⟨ck35 []⟩ 17, ⟨[]⟩⟩
noncomputable def s36 (_ : Params) : Obj := ⟨.type "dict", none, .dict ⟨ck36 []⟩ 17, ⟨[]⟩⟩
noncomputable def s37 (_ : Params) : Obj := ⟨.type "dict", none, .dict ⟨ck37 []⟩ 17, ⟨[]⟩⟩
noncomputable def s38 (_ : Params) : Obj := ⟨.type "dict", none, .dict ⟨ck38 []⟩ 4, ⟨[]⟩⟩
noncomputable def q3_19 (P : Params) : Obj := ⟨(.type "dict"), none, .dict ⟨[en P "__name__" 165 (.str (Str.ofString "cpy313.stringprep") 473), en P "__doc__" 166 .none, en P "__package__" 167 .none, en P "__loader__" 168 (.builtin "__main__.__loader__#opaque"), en P "__spec__" 169 .none, en P "__annotations__" 170 (.ref 6), en P "__builtins__" 171 (.ref 4), en P "__file__" 173 (.str (Str.ofString "/claim/cut.py") 172), en P "__cached__" 174 .none, en P "_sre" 275 (.ref 12), en P "_twin_re_1" 299 (.ref 36), en P "_twin_re_2" 341 (.ref 41), en P "CRLF" 343 (.str (Str.ofString "\x0d\n") 342), en P "quotedata" 350 (.ref 48), en P "COMPILER_FLAG_NAMES" 383 (.ref 49), en P "pretty_flags" 393 (.ref 56), en P "le" 403 (.ref 63), en P "eq" 411 (.ref 70), en P "gt" 419 (.ref 77), en P "add" 427 (.ref 84), en P "lshift" 435 (.ref 91), en P "or_" 443 (.ref 98), en P "concat" 452 (.ref 105), en P "countOf" 462 (.ref 112), en P "indexOf" 472 (.ref 119), en P "b1_set" 534 (.ref 127)]⟩ 26, ⟨[]⟩⟩
noncomputable def q120_19 (P : Params) : Obj := ⟨(.type "list"), none, .seq ⟨[(.int (173) 475), (.int (847) 476), (.int (6150) 477), (.int (6155) 478), (.int (6156) 479), (.int (6157) 480), (.int (8203) 481), (.int (8204) 482), (.int (8205) 483), (.int (8288) 484), (.int (65279) 485)]⟩ 0, ⟨[]⟩⟩
noncomputable def q121_19 (P : Params) : Obj := ⟨(.type "range"), none, .fields ⟨[(.int (65024) 486), (.int (65040) 487), (.int (1) 488)]⟩, ⟨[]⟩⟩
noncomputable def q122_19 (P : Params) : Obj := ⟨(.type "list"), none, .seq ⟨[(.int (65024) 491), (.int (65025) 492), (.int (65026) 493), (.int (65027) 494), (.int (65028) 495), (.int (65029) 496), (.int (65030) 497), (.int (65031) 498), (.int (65032) 499), (.int (65033) 500), (.int (65034) 501), (.int (65035) 502), (.int (65036) 503), (.int (65037) 504), (.int (65038) 505), (.int (65039) 506)]⟩ 18, ⟨[]⟩⟩
noncomputable def q123_19 (P : Params) : Obj := ⟨(.type "range_iterator"), none, .fields ⟨[(.int (65040) 0), (.int (0) 0), (.int (1) 0)]⟩, ⟨[]⟩⟩
noncomputable def q124_19 (P : Params) : Obj := ⟨(.type "tuple"), none, .seq ⟨[]⟩ 0, ⟨[]⟩⟩
noncomputable def q125_19 (P : Params) : Obj := ⟨(.type "StopIteration"), none, .fields ⟨[(.ref 124), .none, .none, .none, (.bool false), .none]⟩, ⟨[]⟩⟩
noncomputable def q126_19 (P : Params) : Obj := ⟨(.type "list"), none, .seq ⟨[(.int (173) 475), (.int (847) 476), (.int (6150) 477), (.int (6155) 478), (.int (6156) 479), (.int (6157) 480), (.int (8203) 481), (.int (8204) 482), (.int (8205) 483), (.int (8288) 484), (.int (65279) 485), (.int (65024) 491), (.int (65025) 492), (.int (65026) 493), (.int (65027) 494), (.int (65028) 495), (.int (65029) 496), (.int (65030) 497), (.int (65031) 498), (.int (65032) 499), (.int (65033) 500), (.int (65034) 501), (.int (65035) 502), (.int (65036) 503), (.int (65037) 504), (.int (65038) 505), (.int (65039) 506)]⟩ 0, ⟨[]⟩⟩
noncomputable def q127_19 (P : Params) : Obj := ⟨(.type "set"), none, .set ⟨[(65024, (.int (65024) 491)), (65025, (.int (65025) 492)), (65026, (.int (65026) 493)), (65027, (.int (65027) 494)), (65028, (.int (65028) 495)), (65029, (.int (65029) 496)), (6150, (.int (6150) 477)), (65030, (.int (65030) 497)), (65031, (.int (65031) 498)), (65032, (.int (65032) 499)), (65033, (.int (65033) 500)), (6155, (.int (6155) 478)), (6156, (.int (6156) 479)), (6157, (.int (6157) 480)), (8203, (.int (8203) 481)), (8204, (.int (8204) 482)), (8205, (.int (8205) 483)), (65034, (.int (65034) 501)), (65035, (.int (65035) 502)), (65036, (.int (65036) 503)), (65037, (.int (65037) 504)), (65038, (.int (65038) 505)), (65039, (.int (65039) 506)), (173, (.int (173) 475)), (847, (.int (847) 476)), (8288, (.int (8288) 484)), (65279, (.int (65279) 485))]⟩ 29 ⟨127, ⟨[0, 1, 2, 3, 4, 5, 6, 7, 8, 9, 10, 11, 12, 13, 14, 15, 16, 17, 18, 19, 20, 21, 22, 45, 79, 96, 127]⟩, ⟨[]⟩, 0, !P.followText "set-order", 2, true⟩, ⟨[]⟩⟩
noncomputable def q128_19 (P : Params) : Obj := ⟨(.type "list_iterator"), none, .fields ⟨[.none, (.int (27) 0)]⟩, ⟨[]⟩⟩
noncomputable def q129_19 (P : Params) : Obj := ⟨(.type "tuple"), none, .seq ⟨[]⟩ 0, ⟨[]⟩⟩
noncomputable def q130_19 (P : Params) : Obj := ⟨(.type "StopIteration"), none, .fields ⟨[(.ref 129), .none, .none, .none, (.bool false), .none]⟩, ⟨[]⟩⟩
noncomputable def tree19 (P : Params) : BT := ((((((((((((myTop.tree_127 P).set 3 fun _ => q3_19 P).ins 120 (q120_19 P)).ins 121 (q121_19 P)).ins 122 (q122_19 P)).ins 123 (q123_19 P)).ins 124 (q124_19 P)).ins 125 (q125_19 P)).ins 126 (q126_19 P)).ins 127 (q127_19 P)).ins 128 (q128_19 P)).ins 129 (q129_19 P)).ins 130 (q130_19 P)
noncomputable def q3_20 (P : Params) : Obj := ⟨(.type "dict"), none, .dict ⟨[en P "__name__" 165 (.str (Str.ofString "cpy313.stringprep") 473), en P "__doc__" 166 .none, en P "__package__" 167 .none, en P "__loader__" 168 (.builtin "__main__.__loader__#opaque"), en P "__spec__" 169 .none, en P "__annotations__" 170 (.ref 6), en P "__builtins__" 171 (.ref 4), en P "__file__" 173 (.str (Str.ofString "/claim/cut.py") 172), en P "__cached__" 174 .none, en P "_sre" 275 (.ref 12), en P "_twin_re_1" 299 (.ref 36), en P "_twin_re_2" 341 (.ref 41), en P "CRLF" 343 (.str (Str.ofString "\x0d\n") 342), en P "quotedata" 350 (.ref 48), en P "COMPILER_FLAG_NAMES" 383 (.ref 49), en P "pretty_flags" 393 (.ref 56), en P "le" 403 (.ref 63), en P "eq" 411 (.ref 70), en P "gt" 419 (.ref 77), en P "add" 427 (.ref 84), en P "lshift" 435 (.ref 91), en P "or_" 443 (.ref 98), en P "concat" 452 (.ref 105), en P "countOf" 462 (.ref 112), en P "indexOf" 472 (.ref 119), en P "b1_set" 534 (.ref 127), en P "in_table_b1" 541 (.ref 137)]⟩ 27, ⟨[]⟩⟩
noncomputable def q29_20 (P : Params) : Obj := ⟨.none, none, .fields ⟨[(.int (6) 0), (.int (0) 0), (.ref 47), (.int (10) 0), (.int (0) 0), (.ref 55), (.int (23) 0), (.int (0) 0), (.ref 62), (.int (25) 0), (.int (0) 0), (.ref 69), (.int (27) 0), (.int (0) 0), (.ref 76), (.int (29) 0), (.int (0) 0), (.ref 83), (.int (31) 0), (.int (0) 0), (.ref 90), (.int (33) 0), (.int (0) 0), (.ref 97), (.int (35) 0), (.int (0) 0), (.ref 104), (.int (40) 0), (.int (0) 0), (.ref 111), (.int (46) 0), (.int (0) 0), (.ref 118), (.int (54) 0), (.int (0) 0), (.ref 136)]⟩, ⟨[]⟩⟩
noncomputable def q131_20 (P : Params) : Obj := ⟨(.type "tuple"), none, .seq ⟨[]⟩ 0, ⟨[]⟩⟩
noncomputable def q132_20 (P : Params) : Obj := ⟨.none, none, .fields ⟨[]⟩, ⟨[]⟩⟩
noncomputable def q133_20 (P : Params) : Obj := ⟨(.type "tuple"), none, .seq ⟨[(.str (Str.ofString "code") 538)]⟩ 0, ⟨[]⟩⟩
noncomputable def q134_20 (P : Params) : Obj := ⟨(.type "tuple"), none, .seq ⟨[]⟩ 0, ⟨[]⟩⟩
noncomputable def q135_20 (P : Params) : Obj := ⟨.none, none, .func ⟨(Str.ofString "in_table_b1"), (Str.ofString "in_table_b1"), stP 21, .stmts (stB 21), stS 21, 0, [], .none, .none, .none, .none, none, .none, .none, 0⟩, ⟨[]⟩⟩
noncomputable def q136_20 (P : Params) : Obj := ⟨(.type "code"), none, .fields ⟨[(.str (Str.ofString "in_table_b1") 535), (.str (Str.ofString "in_table_b1") 536), (.str (Str.ofString "/claim/cut.py") 537), (.int (54) 0), (.int (1) 0), (.int (0) 0), (.int (0) 0), (.int (3) 0), (.ref 131), (.bool true), (.int (276) 0), (.ref 132), .none, (.ref 133), (.ref 134), (.ref 135), (.int (539) 0), (.int (54) 0), (.str (Str.ofString "/claim/cut.py") 540)]⟩, ⟨[]⟩⟩
noncomputable def q137_20 (P : Params) : Obj := ⟨(.type "function"), none, .func ⟨(Str.ofString "in_table_b1"), (Str.ofString "in_table_b1"), stP 21, .stmts (stB 21), stS 21, 3, [], .none, .none, .none, (.str (Str.ofString "cpy313.stringprep") 473), none, (.ref 136), .none, 0⟩, ⟨[]⟩⟩
noncomputable def tree20 (P : Params) : BT := (((((((((tree19 P).set 3 fun _ => q3_20 P).set 29 fun _ => q29_20 P).ins 131 (q131_20 P)).ins 132 (q132_20 P)).ins 133 (q133_20 P)).ins 134 (q134_20 P)).ins 135 (q135_20 P)).ins 136 (q136_20 P)).ins 137 (q137_20 P)
noncomputable def q3_21 (P : Params) : Obj := ⟨(.type "dict"), none, .dict ⟨[en P "__name__" 165 (.str (Str.ofString "cpy313.stringprep") 473), en P "__doc__" 166 .none, en P "__package__" 167 .none, en P "__loader__" 168 (.builtin "__main__.__loader__#opaque"), en P "__spec__" 169 .none, en P "__annotations__" 170 (.ref 6), en P "__builtins__" 171 (.ref 4), en P "__file__" 173 (.str (Str.ofString "/claim/cut.py") 172), en P "__cached__" 174 .none, en P "_sre" 275 (.ref 12), en P "_twin_re_1" 299 (.ref 36), en P "_twin_re_2" 341 (.ref 41), en P "CRLF" 343 (.str (Str.ofString "\x0d\n") 342), en P "quotedata" 350 (.ref 48), en P "COMPILER_FLAG_NAMES" 383 (.ref 49), en P "pretty_flags" 393 (.ref 56), en P "le" 403 (.ref 63), en P "eq" 411 (.ref 70), en P "gt" 419 (.ref 77), en P "add" 427 (.ref 84), en P "lshift" 435 (.ref 91), en P "or_" 443 (.ref 98), en P "concat" 452 (.ref 105), en P "countOf" 462 (.ref 112), en P "indexOf" 472 (.ref 119), en P "b1_set" 534 (.ref 127), en P "in_table_b1" 541 (.ref 137), en P "b3_exceptions" 2492 (.ref 138)]⟩ 28, ⟨[]⟩⟩
noncomputable def tree21 (P : Params) : BT := ((((((((((((((((((((((((((((((((((((((((tree20 P).set 3 fun _ => q3_21 P).ins 138 (m39 P)).ins 139 (s1 P)).ins 140 (s2 P)).ins 141 (s3 P)).ins 142 (s4 P)).ins 143 (s5 P)).ins 144 (s6 P)).ins 145 (s7 P)).ins 146 (s8 P)).ins 147 (s9 P)).ins 148 (s10 P)).ins 149 (s11 P)).ins 150 (s12 P)).ins 151 (s13 P)).ins 152 (s14 P)).ins 153 (s15 P)).ins 154 (s16 P)).ins 155 (s17 P)).ins 156 (s18 P)).ins 157 (s19 P)).ins 158 (s20 P)).ins 159 (s21 P)).ins 160 (s22 P)).ins 161 (s23 P)).ins 162 (s24 P)).ins 163 (s25 P)).ins 164 (s26 P)).ins 165 (s27 P)).ins 166 (s28 P)).ins 167 (s29 P)).ins 168 (s30 P)).ins 169 (s31 P)).ins 170 (s32 P)).ins 171 (s33 P)).ins 172 (s34 P)).ins 173 (s35 P)).ins 174 (s36 P)).ins 175 (s37 P)).ins 176 (s38 P)
noncomputable def q3_32 (P : Params) : Obj := ⟨(.type "dict"), none, .dict ⟨[en P "__name__" 165 (.str (Str.ofString "law_ta0049_01") 2501), en P "__doc__" 166 .none, en P "__package__" 167 .none, en P "__loader__" 168 (.builtin "__main__.__loader__#opaque"), en P "__spec__" 169 .none, en P "__annotations__" 170 (.ref 6), en P "__builtins__" 171 (.ref 4), en P "__file__" 173 (.str (Str.ofString "/claim/cut.py") 172), en P "__cached__" 174 .none, en P "_sre" 275 (.ref 12), en P "_twin_re_1" 299 (.ref 36), en P "_twin_re_2" 341 (.ref 41), en P "CRLF" 343 (.str (Str.ofString "\x0d\n") 342), en P "quotedata" 350 (.ref 48), en P "COMPILER_FLAG_NAMES" 383 (.ref 49), en P "pretty_flags" 393 (.ref 56), en P "le" 403 (.ref 63), en P "eq" 411 (.ref 70), en P "gt" 419 (.ref 77), en P "add" 427 (.ref 84), en P "lshift" 435 (.ref 91), en P "or_" 443 (.ref 98), en P "concat" 452 (.ref 105), en P "countOf" 462 (.ref 112), en P "indexOf" 472 (.ref 119), en P "b1_set" 534 (.ref 127), en P "in_table_b1" 541 (.ref 137), en P "b3_exceptions" 2492 (.ref 138), en P "map_table_b3" 2500 (.ref 183), en P "_law_cells" 2508 (.ref 188), en P "_law_hidden" 2514 (.ref 193), en P "_law_names" 2520 (.ref 198), en P "_law_typed" 2538 (.ref 205), en P "_law_moved" 2550 (.ref 212), en P "_law_sent" 2556 (.ref 217), en P "_law_told" 2567 (.ref 224), en P "_law_back" 2573 (.ref 229), en P "law" 2579 (.ref 234)]⟩ 38, ⟨[]⟩⟩
noncomputable def q29_32 (P : Params) : Obj := ⟨.none, none, .fields ⟨[(.int (6) 0), (.int (0) 0), (.ref 47), (.int (10) 0), (.int (0) 0), (.ref 55), (.int (23) 0), (.int (0) 0), (.ref 62), (.int (25) 0), (.int (0) 0), (.ref 69), (.int (27) 0), (.int (0) 0), (.ref 76), (.int (29) 0), (.int (0) 0), (.ref 83), (.int (31) 0), (.int (0) 0), (.ref 90), (.int (33) 0), (.int (0) 0), (.ref 97), (.int (35) 0), (.int (0) 0), (.ref 104), (.int (40) 0), (.int (0) 0), (.ref 111), (.int (46) 0), (.int (0) 0), (.ref 118), (.int (54) 0), (.int (0) 0), (.ref 136), (.int (57) 0), (.int (0) 0), (.ref 182), (.int (63) 0), (.int (0) 0), (.ref 187), (.int (66) 0), (.int (0) 0), (.ref 192), (.int (68) 0), (.int (0) 0), (.ref 197), (.int (70) 0), (.int (0) 0), (.ref 204), (.int (93) 0), (.int (0) 0), (.ref 211), (.int (107) 0), (.int (0) 0), (.ref 216), (.int (122) 0), (.int (0) 0), (.ref 223), (.int (131) 0), (.int (0) 0), (.ref 228), (.int (144) 0), (.int (0) 0), (.ref 233)]⟩, ⟨[]⟩⟩
noncomputable def q177_32 (P : Params) : Obj := ⟨(.type "tuple"), none, .seq ⟨[]⟩ 0, ⟨[]⟩⟩
noncomputable def q178_32 (P : Params) : Obj := ⟨.none, none, .fields ⟨[]⟩, ⟨[]⟩⟩
noncomputable def q179_32 (P : Params) : Obj := ⟨(.type "tuple"), none, .seq ⟨[(.str (Str.ofString "code") 2496), (.str (Str.ofString "r") 2497)]⟩ 0, ⟨[]⟩⟩
noncomputable def q180_32 (P : Params) : Obj := ⟨(.type "tuple"), none, .seq ⟨[]⟩ 0, ⟨[]⟩⟩
noncomputable def q181_32 (P : Params) : Obj := ⟨.none, none, .func ⟨(Str.ofString "map_table_b3"), (Str.ofString "map_table_b3"), stP 23, .stmts (stB 23), stS 23, 0, [], .none, .none, .none, .none, none, .none, .none, 0⟩, ⟨[]⟩⟩
noncomputable def q182_32 (P : Params) : Obj := ⟨(.type "code"), none, .fields ⟨[(.str (Str.ofString "map_table_b3") 2493), (.str (Str.ofString "map_table_b3") 2494), (.str (Str.ofString "/claim/cut.py") 2495), (.int (57) 0), (.int (1) 0), (.int (0) 0), (.int (0) 0), (.int (3) 0), (.ref 177), (.bool true), (.int (276) 0), (.ref 178), .none, (.ref 179), (.ref 180), (.ref 181), (.int (2498) 0), (.int (57) 0), (.str (Str.ofString "/claim/cut.py") 2499)]⟩, ⟨[]⟩⟩
noncomputable def q183_32 (P : Params) : Obj := ⟨(.type "function"), none, .func ⟨(Str.ofString "map_table_b3"), (Str.ofString "map_table_b3"), stP 23, .stmts (stB 23), stS 23, 3, [], .none, .none, .none, (.str (Str.ofString "cpy313.stringprep") 473), none, (.ref 182), .none, 0⟩, ⟨[]⟩⟩
noncomputable def q184_32 (P : Params) : Obj := ⟨(.type "tuple"), none, .seq ⟨[]⟩ 0, ⟨[]⟩⟩
noncomputable def q185_32 (P : Params) : Obj := ⟨.none, none, .fields ⟨[]⟩, ⟨[]⟩⟩
noncomputable def q186_32 (P : Params) : Obj := ⟨.none, none, .func ⟨(Str.ofString "_law_cells"), (Str.ofString "_law_cells"), stP 25, .stmts (stB 25), stS 25, 0, [], .none, .none, .none, .none, none, .none, .none, 0⟩, ⟨[]⟩⟩
noncomputable def q187_32 (P : Params) : Obj := ⟨(.type "code"), none, .fields ⟨[(.str (Str.ofString "_law_cells") 2503), (.str (Str.ofString "_law_cells") 2504), (.str (Str.ofString "/claim/cut.py") 2505), (.int (63) 0), (.int (1) 0), (.int (0) 0), (.int (0) 0), (.int (3) 0), (.ref 184), (.bool true), (.int (276) 0), (.ref 185), .none, .none, .none, (.ref 186), (.int (2506) 0), (.int (63) 0), (.str (Str.ofString "/claim/cut.py") 2507)]⟩, ⟨[]⟩⟩
noncomputable def q188_32 (P : Params) : Obj := ⟨(.type "function"), none, .func ⟨(Str.ofString "_law_cells"), (Str.ofString "_law_cells"), stP 25, .stmts (stB 25), stS 25, 3, [], .none, .none, .none, (.str (Str.ofString "law_ta0049_01") 2501), none, (.ref 187), .none, 0⟩, ⟨[]⟩⟩
noncomputable def q189_32 (P : Params) : Obj := ⟨(.type "tuple"), none, .seq ⟨[]⟩ 0, ⟨[]⟩⟩
noncomputable def q190_32 (P : Params) : Obj := ⟨.none, none, .fields ⟨[]⟩, ⟨[]⟩⟩
noncomputable def q191_32 (P : Params) : Obj := ⟨.none, none, .func ⟨(Str.ofString "_law_hidden"), (Str.ofString "_law_hidden"), stP 26, .stmts (stB 26), stS 26, 0, [], .none, .none, .none, .none, none, .none, .none, 0⟩, ⟨[]⟩⟩
noncomputable def q192_32 (P : Params) : Obj := ⟨(.type "code"), none, .fields ⟨[(.str (Str.ofString "_law_hidden") 2509), (.str (Str.ofString "_law_hidden") 2510), (.str (Str.ofString "/claim/cut.py") 2511), (.int (66) 0), (.int (0) 0), (.int (0) 0), (.int (0) 0), (.int (3) 0), (.ref 189), (.bool true), (.int (276) 0), (.ref 190), .none, .none, .none, (.ref 191), (.int (2512) 0), (.int (66) 0), (.str (Str.ofString "/claim/cut.py") 2513)]⟩, ⟨[]⟩⟩
noncomputable def q193_32 (P : Params) : Obj := ⟨(.type "function"), none, .func ⟨(Str.ofString "_law_hidden"), (Str.ofString "_law_hidden"), stP 26, .stmts (stB 26), stS 26, 3, [], .none, .none, .none, (.str (Str.ofString "law_ta0049_01") 2501), none, (.ref 192), .none, 0⟩, ⟨[]⟩⟩
noncomputable def q194_32 (P : Params) : Obj := ⟨(.type "tuple"), none, .seq ⟨[]⟩ 0, ⟨[]⟩⟩
noncomputable def q195_32 (P : Params) : Obj := ⟨.none, none, .fields ⟨[]⟩, ⟨[]⟩⟩
noncomputable def q196_32 (P : Params) : Obj := ⟨.none, none, .func ⟨(Str.ofString "_law_names"), (Str.ofString "_law_names"), stP 27, .stmts (stB 27), stS 27, 0, [], .none, .none, .none, .none, none, .none, .none, 0⟩, ⟨[]⟩⟩
noncomputable def q197_32 (P : Params) : Obj := ⟨(.type "code"), none, .fields ⟨[(.str (Str.ofString "_law_names") 2515), (.str (Str.ofString "_law_names") 2516), (.str (Str.ofString "/claim/cut.py") 2517), (.int (68) 0), (.int (0) 0), (.int (0) 0), (.int (0) 0), (.int (3) 0), (.ref 194), (.bool true), (.int (276) 0), (.ref 195), .none, .none, .none, (.ref 196), (.int (2518) 0), (.int (68) 0), (.str (Str.ofString "/claim/cut.py") 2519)]⟩, ⟨[]⟩⟩
noncomputable def q198_32 (P : Params) : Obj := ⟨(.type "function"), none, .func ⟨(Str.ofString "_law_names"), (Str.ofString "_law_names"), stP 27, .stmts (stB 27), stS 27, 3, [], .none, .none, .none, (.str (Str.ofString "law_ta0049_01") 2501), none, (.ref 197), .none, 0⟩, ⟨[]⟩⟩
noncomputable def q199_32 (P : Params) : Obj := ⟨(.type "tuple"), none, .seq ⟨[]⟩ 0, ⟨[]⟩⟩
noncomputable def q200_32 (P : Params) : Obj := ⟨.none, none, .fields ⟨[]⟩, ⟨[]⟩⟩
noncomputable def q201_32 (P : Params) : Obj := ⟨(.type "tuple"), none, .seq ⟨[(.str (Str.ofString "cells") 2524), (.str (Str.ofString "hidden") 2525), (.str (Str.ofString "units") 2526), (.str (Str.ofString "stays") 2527), (.str (Str.ofString "great") 2528), (.str (Str.ofString "typed") 2529), (.str (Str.ofString "word") 2530), (.str (Str.ofString "n") 2531), (.str (Str.ofString "which") 2532), (.str (Str.ofString "ahead") 2533), (.str (Str.ofString "small") 2534), (.str (Str.ofString "form") 2535)]⟩ 0, ⟨[]⟩⟩
noncomputable def q202_32 (P : Params) : Obj := ⟨(.type "tuple"), none, .seq ⟨[]⟩ 0, ⟨[]⟩⟩
noncomputable def q203_32 (P : Params) : Obj := ⟨.none, none, .func ⟨(Str.ofString "_law_typed"), (Str.ofString "_law_typed"), stP 28, .stmts (stB 28), stS 28, 0, [], .none, .none, .none, .none, none, .none, .none, 0⟩, ⟨[]⟩⟩
noncomputable def q204_32 (P : Params) : Obj := ⟨(.type "code"), none, .fields ⟨[(.str (Str.ofString "_law_typed") 2521), (.str (Str.ofString "_law_typed") 2522), (.str (Str.ofString "/claim/cut.py") 2523), (.int (70) 0), (.int (2) 0), (.int (0) 0), (.int (0) 0), (.int (3) 0), (.ref 199), (.bool true), (.int (276) 0), (.ref 200), .none, (.ref 201), (.ref 202), (.ref 203), (.int (2536) 0), (.int (70) 0), (.str (Str.ofString "/claim/cut.py") 2537)]⟩, ⟨[]⟩⟩
noncomputable def q205_32 (P : Params) : Obj := ⟨(.type "function"), none, .func ⟨(Str.ofString "_law_typed"), (Str.ofString "_law_typed"), stP 28, .stmts (stB 28), stS 28, 3, [], .none, .none, .none, (.str (Str.ofString "law_ta0049_01") 2501), none, (.ref 204), .none, 0⟩, ⟨[]⟩⟩
noncomputable def q206_32 (P : Params) : Obj := ⟨(.type "tuple"), none, .seq ⟨[]⟩ 0, ⟨[]⟩⟩
noncomputable def q207_32 (P : Params) : Obj := ⟨.none, none, .fields ⟨[]⟩, ⟨[]⟩⟩
noncomputable def q208_32 (P : Params) : Obj := ⟨(.type "tuple"), none, .seq ⟨[(.str (Str.ofString "word") 2542), (.str (Str.ofString "row") 2543), (.str (Str.ofString "sign") 2544), (.str (Str.ofString "held") 2545), (.str (Str.ofString "laid") 2546), (.str (Str.ofString "letter") 2547)]⟩ 0, ⟨[]⟩⟩
noncomputable def q209_32 (P : Params) : Obj := ⟨(.type "tuple"), none, .seq ⟨[]⟩ 0, ⟨[]⟩⟩
noncomputable def q210_32 (P : Params) : Obj := ⟨.none, none, .func ⟨(Str.ofString "_law_moved"), (Str.ofString "_law_moved"), stP 29, .stmts (stB 29), stS 29, 0, [], .none, .none, .none, .none, none, .none, .none, 0⟩, ⟨[]⟩⟩
noncomputable def q211_32 (P : Params) : Obj := ⟨(.type "code"), none, .fields ⟨[(.str (Str.ofString "_law_moved") 2539), (.str (Str.ofString "_law_moved") 2540), (.str (Str.ofString "/claim/cut.py") 2541), (.int (93) 0), (.int (1) 0), (.int (0) 0), (.int (0) 0), (.int (3) 0), (.ref 206), (.bool true), (.int (276) 0), (.ref 207), .none, (.ref 208), (.ref 209), (.ref 210), (.int (2548) 0), (.int (93) 0), (.str (Str.ofString "/claim/cut.py") 2549)]⟩, ⟨[]⟩⟩
noncomputable def q212_32 (P : Params) : Obj := ⟨(.type "function"), none, .func ⟨(Str.ofString "_law_moved"), (Str.ofString "_law_moved"), stP 29, .stmts (stB 29), stS 29, 3, [], .none, .none, .none, (.str (Str.ofString "law_ta0049_01") 2501), none, (.ref 211), .none, 0⟩, ⟨[]⟩⟩
noncomputable def q213_32 (P : Params) : Obj := ⟨(.type "tuple"), none, .seq ⟨[]⟩ 0, ⟨[]⟩⟩
noncomputable def q214_32 (P : Params) : Obj := ⟨.none, none, .fields ⟨[]⟩, ⟨[]⟩⟩
noncomputable def q215_32 (P : Params) : Obj := ⟨.none, none, .func ⟨(Str.ofString "_law_sent"), (Str.ofString "_law_sent"), stP 30, .stmts (stB 30), stS 30, 0, [], .none, .none, .none, .none, none, .none, .none, 0⟩, ⟨[]⟩⟩
noncomputable def q216_32 (P : Params) : Obj := ⟨(.type "code"), none, .fields ⟨[(.str (Str.ofString "_law_sent") 2551), (.str (Str.ofString "_law_sent") 2552), (.str (Str.ofString "/claim/cut.py") 2553), (.int (107) 0), (.int (2) 0), (.int (0) 0), (.int (0) 0), (.int (3) 0), (.ref 213), (.bool true), (.int (276) 0), (.ref 214), .none, .none, .none, (.ref 215), (.int (2554) 0), (.int (107) 0), (.str (Str.ofString "/claim/cut.py") 2555)]⟩, ⟨[]⟩⟩
noncomputable def q217_32 (P : Params) : Obj := ⟨(.type "function"), none, .func ⟨(Str.ofString "_law_sent"), (Str.ofString "_law_sent"), stP 30, .stmts (stB 30), stS 30, 3, [], .none, .none, .none, (.str (Str.ofString "law_ta0049_01") 2501), none, (.ref 216), .none, 0⟩, ⟨[]⟩⟩
noncomputable def q218_32 (P : Params) : Obj := ⟨(.type "tuple"), none, .seq ⟨[]⟩ 0, ⟨[]⟩⟩
noncomputable def q219_32 (P : Params) : Obj := ⟨.none, none, .fields ⟨[]⟩, ⟨[]⟩⟩
noncomputable def q220_32 (P : Params) : Obj := ⟨(.type "tuple"), none, .seq ⟨[(.str (Str.ofString "dots") 2560), (.str (Str.ofString "stock") 2561), (.str (Str.ofString "row") 2562), (.str (Str.ofString "text") 2563), (.str (Str.ofString "size") 2564)]⟩ 0, ⟨[]⟩⟩
noncomputable def q221_32 (P : Params) : Obj := ⟨(.type "tuple"), none, .seq ⟨[]⟩ 0, ⟨[]⟩⟩
noncomputable def q222_32 (P : Params) : Obj := ⟨.none, none, .func ⟨(Str.ofString "_law_told"), (Str.ofString "_law_told"), stP 31, .stmts (stB 31), stS 31, 0, [], .none, .none, .none, .none, none, .none, .none, 0⟩, ⟨[]⟩⟩
noncomputable def q223_32 (P : Params) : Obj := ⟨(.type "code"), none, .fields ⟨[(.str (Str.ofString "_law_told") 2557), (.str (Str.ofString "_law_told") 2558), (.str (Str.ofString "/claim/cut.py") 2559), (.int (122) 0), (.int (2) 0), (.int (0) 0), (.int (0) 0), (.int (3) 0), (.ref 218), (.bool true), (.int (276) 0), (.ref 219), .none, (.ref 220), (.ref 221), (.ref 222), (.int (2565) 0), (.int (122) 0), (.str (Str.ofString "/claim/cut.py") 2566)]⟩, ⟨[]⟩⟩
noncomputable def q224_32 (P : Params) : Obj := ⟨(.type "function"), none, .func ⟨(Str.ofString "_law_told"), (Str.ofString "_law_told"), stP 31, .stmts (stB 31), stS 31, 3, [], .none, .none, .none, (.str (Str.ofString "law_ta0049_01") 2501), none, (.ref 223), .none, 0⟩, ⟨[]⟩⟩
noncomputable def q225_32 (P : Params) : Obj := ⟨(.type "tuple"), none, .seq ⟨[]⟩ 0, ⟨[]⟩⟩
noncomputable def q226_32 (P : Params) : Obj := ⟨.none, none, .fields ⟨[]⟩, ⟨[]⟩⟩
noncomputable def q227_32 (P : Params) : Obj := ⟨.none, none, .func ⟨(Str.ofString "_law_back"), (Str.ofString "_law_back"), stP 32, .stmts (stB 32), stS 32, 0, [], .none, .none, .none, .none, none, .none, .none, 0⟩, ⟨[]⟩⟩
noncomputable def q228_32 (P : Params) : Obj := ⟨(.type "code"), none, .fields ⟨[(.str (Str.ofString "_law_back") 2568), (.str (Str.ofString "_law_back") 2569), (.str (Str.ofString "/claim/cut.py") 2570), (.int (131) 0), (.int (1) 0), (.int (0) 0), (.int (0) 0), (.int (3) 0), (.ref 225), (.bool true), (.int (276) 0), (.ref 226), .none, .none, .none, (.ref 227), (.int (2571) 0), (.int (131) 0), (.str (Str.ofString "/claim/cut.py") 2572)]⟩, ⟨[]⟩⟩
noncomputable def q229_32 (P : Params) : Obj := ⟨(.type "function"), none, .func ⟨(Str.ofString "_law_back"), (Str.ofString "_law_back"), stP 32, .stmts (stB 32), stS 32, 3, [], .none, .none, .none, (.str (Str.ofString "law_ta0049_01") 2501), none, (.ref 228), .none, 0⟩, ⟨[]⟩⟩
noncomputable def q230_32 (P : Params) : Obj := ⟨(.type "tuple"), none, .seq ⟨[]⟩ 0, ⟨[]⟩⟩
noncomputable def q231_32 (P : Params) : Obj := ⟨.none, none, .fields ⟨[]⟩, ⟨[]⟩⟩
noncomputable def q232_32 (P : Params) : Obj := ⟨.none, none, .func ⟨(Str.ofString "law"), (Str.ofString "law"), stP 33, .stmts (stB 33), stS 33, 0, [], .none, .none, .none, .none, none, .none, .none, 0⟩, ⟨[]⟩⟩
noncomputable def q233_32 (P : Params) : Obj := ⟨(.type "code"), none, .fields ⟨[(.str (Str.ofString "law") 2574), (.str (Str.ofString "law") 2575), (.str (Str.ofString "/claim/cut.py") 2576), (.int (144) 0), (.int (1) 0), (.int (0) 0), (.int (0) 0), (.int (3) 0), (.ref 230), (.bool true), (.int (276) 0), (.ref 231), .none, .none, .none, (.ref 232), (.int (2577) 0), (.int (144) 0), (.str (Str.ofString "/claim/cut.py") 2578)]⟩, ⟨[]⟩⟩
noncomputable def q234_32 (P : Params) : Obj := ⟨(.type "function"), none, .func ⟨(Str.ofString "law"), (Str.ofString "law"), stP 33, .stmts (stB 33), stS 33, 3, [], .none, .none, .none, (.str (Str.ofString "law_ta0049_01") 2501), none, (.ref 233), .none, 0⟩, ⟨[]⟩⟩
noncomputable def tree32 (P : Params) : BT := ((((((((((((((((((((((((((((((((((((((((((((((((((((((((((((tree21 P).set 3 fun _ => q3_32 P).set 29 fun _ => q29_32 P).ins 177 (q177_32 P)).ins 178 (q178_32 P)).ins 179 (q179_32 P)).ins 180 (q180_32 P)).ins 181 (q181_32 P)).ins 182 (q182_32 P)).ins 183 (q183_32 P)).ins 184 (q184_32 P)).ins 185 (q185_32 P)).ins 186 (q186_32 P)).ins 187 (q187_32 P)).ins 188 (q188_32 P)).ins 189 (q189_32 P)).ins 190 (q190_32 P)).ins 191 (q191_32 P)).ins 192 (q192_32 P)).ins 193 (q193_32 P)).ins 194 (q194_32 P)).ins 195 (q195_32 P)).ins 196 (q196_32 P)).ins 197 (q197_32 P)).ins 198 (q198_32 P)).ins 199 (q199_32 P)).ins 200 (q200_32 P)).ins 201 (q201_32 P)).ins 202 (q202_32 P)).ins 203 (q203_32 P)).ins 204 (q204_32 P)).ins 205 (q205_32 P)).ins 206 (q206_32 P)).ins 207 (q207_32 P)).ins 208 (q208_32 P)).ins 209 (q209_32 P)).ins 210 (q210_32 P)).ins 211 (q211_32 P)).ins 212 (q212_32 P)).ins 213 (q213_32 P)).ins 214 (q214_32 P)).ins 215 (q215_32 P)).ins 216 (q216_32 P)).ins 217 (q217_32 P)).ins 218 (q218_32 P)).ins 219 (q219_32 P)).ins 220 (q220_32 P)).ins 221 (q221_32 P)).ins 222 (q222_32 P)).ins 223 (q223_32 P)).ins 224 (q224_32 P)).ins 225 (q225_32 P)).ins 226 (q226_32 P)).ins 227 (q227_32 P)).ins 228 (q228_32 P)).ins 229 (q229_32 P)).ins 230 (q230_32 P)).ins 231 (q231_32 P)).ins 232 (q232_32 P)).ins 233 (q233_32 P)).ins 234 (q234_32 P)
noncomputable def sts19 : List Stmt := [stAt 20]
noncomputable def sts20 : List Stmt := [stAt 21]
noncomputable def sts21 : List Stmt := [stAt 22]
noncomputable def sts32 : List Stmt := [stAt 23, stAt 24, stAt 25, stAt 26, stAt 27, stAt 28, stAt 29, stAt 30, stAt 31, stAt 32, stAt 33]
end
end Mine
end
section
open PySem PySem.W PyProof.Rows
set_option maxRecDepth 100000
set_option maxHeartbeats 0
namespace Mine
noncomputable section
noncomputable def St19 (w : World) : Prop :=
  (fun (os : OsState) => segRunT treeTable PySem.Challenge.pw_ta0049_01 w 28 (some (.ref 6)) 1 999 ⟨myTop.tree_127 w.params, 120, {}, ⟨[]⟩, {}, 475, os⟩
    ⟨(execs sts19 myTop.env_1).wrap doneF deadEnd id id, .body (behindTheImports PySem.Challenge.pw_ta0049_01) myTop.env_1, ⟨52, 0, 52, 8⟩, [topFrame ⟨0, 0, 0, 0⟩]⟩)
  = fun os => some (.next, ⟨tree19 w.params, 131, {}, ⟨[]⟩, {}, 535, os⟩, .body (behindTheImports PySem.Challenge.pw_ta0049_01) myTop.env_1, ⟨53, 0, 53, 6⟩)
noncomputable def St20 (w : World) : Prop :=
  (fun (os : OsState) => segRunT treeTable PySem.Challenge.pw_ta0049_01 w 28 (some (.ref 6)) 1 30 ⟨tree19 w.params, 131, {}, ⟨[]⟩, {}, 535, os⟩
    ⟨(execs sts20 myTop.env_1).wrap doneF deadEnd id id, .body (behindTheImports PySem.Challenge.pw_ta0049_01) myTop.env_1, ⟨53, 0, 53, 6⟩, [topFrame ⟨0, 0, 0, 0⟩]⟩)
  = fun os => some (.next, ⟨tree20 w.params, 138, {}, ⟨[]⟩, {}, 542, os⟩, .body (behindTheImports PySem.Challenge.pw_ta0049_01) myTop.env_1, ⟨54, 0, 55, 30⟩)
noncomputable def St21 (w : World) : Prop :=
  (fun (os : OsState) => segRunT treeTable PySem.Challenge.pw_ta0049_01 w 28 (some (.ref 6)) 1 12525 ⟨tree20 w.params, 138, {}, ⟨[]⟩, {}, 542, os⟩
    ⟨(execs sts21 myTop.env_1).wrap doneF deadEnd id id, .body (behindTheImports PySem.Challenge.pw_ta0049_01) myTop.env_1, ⟨54, 0, 55, 30⟩, [topFrame ⟨0, 0, 0, 0⟩]⟩)
  = fun os => some (.next, ⟨tree21 w.params, 177, {}, ⟨[]⟩, {}, 2493, os⟩, .body (behindTheImports PySem.Challenge.pw_ta0049_01) myTop.env_1, ⟨56, 0, 56, 13⟩)
noncomputable def St32 (w : World) : Prop :=
  (fun (os : OsState) => segRunT treeTable PySem.Challenge.pw_ta0049_01 w 28 (some (.ref 6)) 1 400 ⟨tree21 w.params, 177, {}, ⟨[]⟩, {}, 2493, os⟩
    ⟨(execs sts32 myTop.env_1).wrap doneF deadEnd id id, .body (behindTheImports PySem.Challenge.pw_ta0049_01) myTop.env_1, ⟨56, 0, 56, 13⟩, [topFrame ⟨0, 0, 0, 0⟩]⟩)
  = fun os => some (.next, ⟨tree32 w.params, 235, {}, ⟨[]⟩, {}, 2580, os⟩, .body (behindTheImports PySem.Challenge.pw_ta0049_01) myTop.env_1, ⟨144, 0, 183, 103⟩)
end
end Mine
end
section
open PySem PySem.W PyProof.Rows
set_option maxRecDepth 100000
namespace Mine
noncomputable section
noncomputable abbrev LS := Option Addr × List (Sem Value × Sem Value)
noncomputable abbrev IT := Option (Sem Value) × Sem Value
noncomputable def ddP : (IT → LS → Sem (ForInStep LS)) × (LS → Sem Value) :=
  (⟨(_, _), fun _ => rfl⟩ : { b : (IT → LS → Sem (ForInStep LS)) × (LS → Sem Value) // ∀ items : List IT, dictDisplay items = forIn items ((none, []) : LS) b.1 >>= b.2 }).1
theorem ddP_eq (items : List IT) : dictDisplay items = forIn items ((none, []) : LS) ddP.1 >>= ddP.2 := rfl
noncomputable def ddF : IT → LS → Sem (ForInStep LS) := ddP.1
noncomputable def itm (p : Sem Value × Sem Value) : IT := (some p.1, p.2)
theorem ddF_push (p : Sem Value × Sem Value) (m : Option Addr) (run : List (Sem Value × Sem Value)) (h : run.length < 16) : ddF (itm p) (m, run) = pure (.yield (m, run ++ [p])) := by
  show (if ((run ++ [p]).length == 17) = true then _ else _) = _
  rw [if_neg (by simp; omega)]
  rfl
theorem loop_push : ∀ (ps : List (Sem Value × Sem Value)) (m : Option Addr) (run : List (Sem Value × Sem Value)) (rest : List IT), run.length + ps.length ≤ 16 →
    forIn (ps.map itm ++ rest) ((m, run) : LS) ddF = forIn rest ((m, run ++ ps) : LS) ddF
  | [], m, run, rest, _ => by rw [List.map_nil, List.nil_append, List.append_nil]
  | p :: ps, m, run, rest, h => by
    simp only [List.length_cons] at h
    rw [List.map_cons, List.cons_append, List.forIn_cons, ddF_push p m run (by omega)]
    show forIn (ps.map itm ++ rest) ((m, run ++ [p]) : LS) ddF = _
    rw [loop_push ps m (run ++ [p]) rest (by simp; omega), List.append_assoc]; rfl
theorem bind_wrap {α β : Type} (m : Sem α) (f : α → Sem β) (K : β → Sem Fin) (H : Value → Sem Fin) : (m >>= f).wrap K H id id = m.wrap (fun a => (f a).wrap K H id id) H id id := by
  rw [Sem.bind_eq_wrap', Sem.wrap_wrap]
  rfl
theorem top_x {α : Type} {p : Program} {w : World} {n₀ : Nat} {ann : Option Value} {q : Pos} {x : Sem α} {res : α → Flow} {K : α → Sem Fin} {H : Value → Sem Fin} {S S' : SharedT} {a : α} {f : Flow} {n N : Nat} {c c' : Code} {pos pos' : Pos} {r : Shared}
    (h : segRunT treeTable p w n₀ ann 1 n S ⟨x.wrap (fun a => .pure (.done (res a))) deadEnd id id, c, pos, [topFrame q]⟩ = some (f, S', c', pos')) (inj : ∀ a', res a' = f → a' = a)
    (k : topRun treeTable p w n₀ ann N S'.abs ⟨K a, c', pos', [topFrame q]⟩ = some r) : topRun treeTable p w n₀ ann (n + N) S.abs ⟨x.wrap K H id id, c, pos, [topFrame q]⟩ = some r := by
  obtain ⟨a', ha, hN⟩ := seg_top (res := res) (K' := K) (H' := H) (B := [topFrame q]) rfl n S.abs ⟨x.wrap (fun a => .pure (.done (res a))) deadEnd id id, c, pos, [topFrame q]⟩ ⟨x.wrap K H id id, c, pos, [topFrame q]⟩ _ _ _ _ ⟨rfl, rfl, .inl ⟨rfl, rfl, _, rfl, rfl⟩⟩ (segRun_of h)
  obtain rfl := inj a' ha
  exact hN N r k
noncomputable def resD : ForInStep LS → Flow
  | .yield (some d, []) => .ret (.ref d)
  | _ => .next
theorem resD_inj {d : Addr} (a : ForInStep LS) (h : resD a = .ret (.ref d)) : a = .yield (some d, []) := by
  unfold resD at h
  split at h
  · cases h; rfl
  · cases h
theorem top_flush {p : Program} {w : World} {n₀ : Nat} {ann : Option Value} {q : Pos} {ps : List (Sem Value × Sem Value)} {a : Sem Value × Sem Value} {m : Option Addr} {d : Addr} {rest : List IT} {K : LS → Sem Fin} {H : Value → Sem Fin} {S S' : SharedT} {n N : Nat} {c c' : Code} {pos pos' : Pos} {r : Shared}
    (hps : ps.length ≤ 16)
    (h : segRunT treeTable p w n₀ ann 1 n S ⟨(ddF (itm a) (m, ps)).wrap (fun a => .pure (.done (resD a))) deadEnd id id, c, pos, [topFrame q]⟩ = some (.ret (.ref d), S', c', pos'))
    (k : topRun treeTable p w n₀ ann N S'.abs ⟨(forIn rest ((some d, []) : LS) ddF).wrap K H id id, c', pos', [topFrame q]⟩ = some r) :
    topRun treeTable p w n₀ ann (n + N) S.abs ⟨(forIn (ps.map itm ++ itm a :: rest) ((m, []) : LS) ddF).wrap K H id id, c, pos, [topFrame q]⟩ = some r := by
  rw [loop_push ps m [] _ (by simpa using hps), List.nil_append, List.forIn_cons, bind_wrap]
  refine top_x h (a := .yield (some d, [])) (fun a' => resD_inj a') ?_
  exact k
end
end Mine
end
section
open PySem PySem.W PyProof.Rows
set_option maxRecDepth 100000
set_option maxHeartbeats 0
namespace Mine
noncomputable section
noncomputable def m1 (_ : Params) : Obj := ⟨.type "dict", none, .dict ⟨ck0 []⟩ 17, ⟨[]⟩⟩
noncomputable def m2 (_ : Params) : Obj := ⟨.type "dict", none, .dict ⟨ck0 (ck1 [])⟩ 34, ⟨[]⟩⟩
noncomputable def m3 (_ : Params) : Obj := ⟨.type "dict", none, .dict ⟨ck0 (ck1 (ck2 []))⟩ 51, ⟨[]⟩⟩
noncomputable def m4 (_ : Params) : Obj := ⟨.type "dict", none, .dict ⟨ck0 (ck1 (ck2 (ck3 [])))⟩ 68, ⟨[]⟩⟩
noncomputable def m5 (_ : Params) : Obj := ⟨.type "dict", none, .dict ⟨ck0 (ck1 (ck2 (ck3 (ck4 []))))⟩ 85, ⟨[]⟩⟩
noncomputable def m6 (_ : Params) : Obj := ⟨.type "dict", none, .dict ⟨ck0 (ck1 (ck2 (ck3 (ck4 (ck5 [])))))⟩ 102, ⟨[]⟩⟩
noncomputable def m7 (_ : Params) : Obj := ⟨.type "dict", none, .dict ⟨ck0 (ck1 (ck2 (ck3 (ck4 (ck5 (ck6 []))))))⟩ 119, ⟨[]⟩⟩
noncomputable def m8 (_ : Params) : Obj := ⟨.type "dict", none, .dict ⟨ck0 (ck1 (ck2 (ck3 (ck4 (ck5 (ck6 (ck7 [])))))))⟩ 136, ⟨[]⟩⟩
noncomputable def m9 (_ : Params) : Obj := ⟨.type "dict", none, .dict ⟨ck0 (ck1 (ck2 (ck3 (ck4 (ck5 (ck6 (ck7 (ck8 []))))))))⟩ 153, ⟨[]⟩⟩
noncomputable def m10 (_ : Params) : Obj := ⟨.type "dict", none, .dict ⟨ck0 (ck1 (ck2 (ck3 (ck4 (ck5 (ck6 (ck7 (ck8 (ck9 [])))))))))⟩ 170, ⟨[]⟩⟩
noncomputable def m11 (_ : Params) : Obj := ⟨.type "dict", none, .dict ⟨ck0 (ck1 (ck2 (ck3 (ck4 (ck5 (ck6 (ck7 (ck8 (ck9 (ck10 []))))))))))⟩ 187, ⟨[]⟩⟩
noncomputable def m12 (_ : Params) : Obj := ⟨.type "dict", none, .dict ⟨ck0 (ck1 (ck2 (ck3 (ck4 (ck5 (ck6 (ck7 (ck8 (ck9 (ck10 (ck11 [])))))))))))⟩ 204, ⟨[]⟩⟩
noncomputable def m13 (_ : Params) : Obj := ⟨.type "dict", none, .dict ⟨ck0 (ck1 (ck2 (ck3 (ck4 (ck5 (ck6 (ck7 (ck8 (ck9 (ck10 (ck11 (ck12 []))))))))))))⟩ 221, ⟨[]⟩⟩
noncomputable def m14 (_ : Params) : Obj := ⟨.type "dict", none, .dict ⟨ck0 (ck1 (ck2 (ck3 (ck4 (ck5 (ck6 (ck7 (ck8 (ck9 (ck10 (ck11 (ck12 (ck13 [])))))))))))))⟩ 238, ⟨[]⟩⟩
noncomputable def m15 (_ : Params) : Obj := ⟨.type "dict", none, .dict ⟨ck0 (ck1 (ck2 (ck3 (ck4 (ck5 (ck6 (ck7 (ck8 (ck9 (ck10 (ck11 (ck12 (ck13 (ck14 []))))))))))))))⟩ 255, ⟨[]⟩⟩
noncomputable def m16 (_ : Params) : Obj := ⟨.type "dict", none, .dict ⟨ck0 (ck1 (ck2 (ck3 (ck4 (ck5 (ck6 (ck7 (ck8 (ck9 (ck10 (ck11 (ck12 (ck13 (ck14 (ck15 [])))))))))))))))⟩ 272, ⟨[]⟩⟩
noncomputable def m17 (_ : Params) : Obj := ⟨.type "dict", none, .dict ⟨ck0 (ck1 (ck2 (ck3 (ck4 (ck5 (ck6 (ck7 (ck8 (ck9 (ck10 (ck11 (ck12 (ck13 (ck14 (ck15 (ck16 []))))))))))))))))⟩ 289, ⟨[]⟩⟩
noncomputable def m18 (_ : Params) : Obj := ⟨.type "dict", none, .dict ⟨ck0 (ck1 (ck2 (ck3 (ck4 (ck5 (ck6 (ck7 (ck8 (ck9 (ck10 (ck11 (ck12 (ck13 (ck14 (ck15 (ck16 (ck17 [])))))))))))))))))⟩ 306, ⟨[]⟩⟩
noncomputable def m19 (_ : Params) : Obj := ⟨.type "dict", none, .dict ⟨ck0 (ck1 (ck2 (ck3 (ck4 (ck5 (ck6 (ck7 (ck8 (ck9 (ck10 (ck11 (ck12 (ck13 (ck14 (ck15 (ck16 (ck17 (ck18 []))))))))))))))))))⟩ 323, ⟨[]⟩⟩
noncomputable def m20 (_ : Params) : Obj := ⟨.type "dict", none, .dict ⟨ck0 (ck1 (ck2 (ck3 (ck4 (ck5 (ck6 (ck7 (ck8 (ck9 (ck10 (ck11 (ck12 (ck13 (ck14 (ck15 (ck16 (ck17 (ck18 (ck19 [])))))))))))))))))))⟩ 340, ⟨[]⟩⟩
noncomputable def m21 (_ : Params) : Obj := ⟨.type "dict", none, .dict ⟨ck0 (ck1 (ck2 (ck3 (ck4 (ck5 (ck6 (ck7 (ck8 (ck9 (ck10 (ck11 (ck12 (ck13 (ck14 (ck15 (ck16 (ck17 (ck18 (ck19 (ck20 []))))))))))))))))))))⟩ 357, ⟨[]⟩⟩
noncomputable def m22 (_ : Params) : Obj := ⟨.type "dict", none, .dict ⟨ck0 (ck1 (ck2 (ck3 (ck4 (ck5 (ck6 (ck7 (ck8 (ck9 (ck10 (ck11 (ck12 (ck13 (ck14 (ck15 (ck16 (ck17 (ck18 (ck19 (ck20 (ck21 [])))))))))))))))))))))⟩ 374, ⟨[]⟩⟩
noncomputable def m23 (_ : Params) : Obj := ⟨.type "dict", none, .dict ⟨ck0 (ck1 (ck2 (ck3 (ck4 (ck5 (ck6 (ck7 (ck8 (ck9 (ck10 (ck11 (ck12 (ck13 (ck14 (ck15 (ck16 (ck17 (ck18 (ck19 (ck20 (ck21 (ck22 []))))))))))))))))))))))⟩ 391, ⟨[]⟩⟩
noncomputable def m24 (_ : Params) : Obj := ⟨.type "dict", none, .dict ⟨ck0 (ck1 (ck2 (ck3 (ck4 (ck5 (ck6 (ck7 (ck8 (ck9 (ck10 (ck11 (ck12 (ck13 (ck14 (ck15 (ck16 (ck17 (ck18 (ck19 (ck20 (ck21 (ck22 (ck23 [])))))))))))))))))))))))⟩ 408, ⟨[]⟩⟩
noncomputable def m25 (_ : Params) : Obj := ⟨.type "dict", none, .dict ⟨ck0 (ck1 (ck2 (ck3 (ck4 (ck5 (ck6 (ck7 (ck8 (ck9 (ck10 (ck11 (ck12 (ck13 (ck14 (ck15 (ck16 (ck17 (ck18 (ck19 (ck20 (ck21 (ck22 (ck23 (ck24 []))))))))))))))))))))))))⟩ 425, ⟨[]⟩⟩
noncomputable def m26 (_ : Params) : Obj := ⟨.type "dict", none, .dict ⟨ck0 (ck1 (ck2 (ck3 (ck4 (ck5 (ck6 (ck7 (ck8 (ck9 (ck10 (ck11 (ck12 (ck13 (ck14 (ck15 (ck16 (ck17 (ck18 (ck19 (ck20 (ck21 (ck22 (ck23 (ck24 (ck25 [])))))))))))))))))))))))))⟩ 442, ⟨[]⟩⟩
noncomputable def m27 (_ : Params) : Obj := ⟨.type "dict", none, .dict ⟨ck0 (ck1 (ck2 (ck3 (ck4 (ck5 (ck6 (ck7 (ck8 (ck9 (ck10 (ck11 (ck12 (ck13 (ck14 (ck15 (ck16 (ck17 (ck18 (ck19 (ck20 (ck21 (ck22 (ck23 (ck24 (ck25 (ck26 []))))))))))))))))))))))))))⟩ 459, ⟨[]⟩⟩
noncomputable def m28 (_ : Params) : Obj := ⟨.type "dict", none, .dict ⟨ck0 (ck1 (ck2 (ck3 (ck4 (ck5 (ck6 (ck7 (ck8 (ck9 (ck10 (ck11 (ck12 (ck13 (ck14 (ck15 (ck16 (ck17 (ck18 (ck19 (ck20 (ck21 (ck22 (ck23 (ck24 (ck25 (ck26 (ck27 [])))))))))))))))))))))))))))⟩ 476, ⟨[]⟩⟩
noncomputable def m29 (_ : Params) : Obj := ⟨.type "dict", none, .dict ⟨ck0 (ck1 (ck2 (ck3 (ck4 (ck5 (ck6 (ck7 (ck8 (ck9 (ck10 (ck11 (ck12 (ck13 (ck14 (ck15 (ck16 (ck17 (ck18 (ck19 (ck20 (ck21 (ck22 (ck23 (ck24 (ck25 (ck26 (ck27 (ck28 []))))))))))))))))))))))))))))⟩ 493, ⟨[]⟩⟩
noncomputable def m30 (_ : Params) : Obj := ⟨.type "dict", none, .dict ⟨ck0 (ck1 (ck2 (ck3 (ck4 (ck5 (ck6 (ck7 (ck8 (ck9 (ck10 (ck11 (ck12 (ck13 (ck14 (ck15 (ck16 (ck17 (ck18 (ck19 (ck20 (ck21 (ck22 (ck23 (ck24 (ck25 (ck26 (ck27 (ck28 (ck29 [])))))))))))))))))))))))))))))⟩ 510, ⟨[]⟩⟩
noncomputable def m31 (_ : Params) : Obj := ⟨.type "dict", none, .dict ⟨ck0 (ck1 (ck2 (ck3 (ck4 (ck5 (ck6 (ck7 (ck8 (ck9 (ck10 (ck11 (ck12 (ck13 (ck14 (ck15 (ck16 (ck17 (ck18 (ck19 (ck20 (ck21 (ck22 (ck23 (ck24 (ck25 (ck26 (ck27 (ck28 (ck29 (ck30 []))))))))))))))))))))))))))))))⟩ 527, ⟨[]⟩⟩
noncomputable def m32 (_ : Params) : Obj := ⟨.type "dict", none, .dict ⟨ck0 (ck1 (ck2 (ck3 (ck4 (ck5 (ck6 (ck7 (ck8 (ck9 (ck10 (ck11 (ck12 (ck13 (ck14 (ck15 (ck16 (ck17 (ck18 (ck19 (ck20 (ck21 (ck22 (ck23 (ck24 (ck25 (ck26 (ck27 (ck28 (ck29 (ck30 (ck31 [])))))))))))))))))))))))))))))))⟩ 544, ⟨[]⟩⟩
noncomputable def m33 (_ : Params) : Obj := ⟨.type "dict", none, .dict ⟨ck0 (ck1 (ck2 (ck3 (ck4 (ck5 (ck6 (ck7 (ck8 (ck9 (ck10 (ck11 (ck12 (ck13 (ck14 (ck15 (ck16 (ck17 (ck18 (ck19 (ck20 (ck21 (ck22 (ck23 (ck24 (ck25 (ck26 (ck27 (ck28 (ck29 (ck30 (ck31 (ck32 []))))))))))))))))))))))))))))))))⟩ 561, ⟨[]⟩⟩
noncomputable def m34 (_ : Params) : Obj := ⟨.type "dict", none, .dict ⟨ck0 (ck1 (ck2 (ck3 (ck4 (ck5 (ck6 (ck7 (ck8 (ck9 (ck10 (ck11 (ck12 (ck13 (ck14 (ck15 (ck16 (ck17 (ck18 (ck19 (ck20 (ck21 (ck22 (ck23 (ck24 (ck25 (ck26 (ck27 (ck28 (ck29 (ck30 (ck31 (ck32 (ck33 [])))))))))))))))))))))))))))))))))⟩ 578, ⟨[]⟩⟩
noncomputable def m35 (_ : Params) : Obj := ⟨.type "dict", none, .dict ⟨ck0 (ck1 (ck2 (ck3 (ck4 (ck5 (ck6 (ck7 (ck8 (ck9 (ck10 (ck11 (ck12 (ck13 (ck14 (ck15 (ck16 (ck17 (ck18 (ck19 (ck20 (ck21 (ck22 (ck23 (ck24 (ck25 (ck26 (ck27 (ck28 (ck29 (ck30 (ck31 (ck32 (ck33 (ck34 []))))))))))))))))))))))))))))))))))⟩ 595, ⟨[]⟩⟩
noncomputable def m36 (_ : Params) : Obj := ⟨.type "dict", none, .dict ⟨ck0 (ck1 (ck2 (ck3 (ck4 (ck5 (ck6 (ck7 (ck8 (ck9 (ck10 (ck11 (ck12 (ck13 (ck14 (ck15 (ck16 (ck17 (ck18 (ck19 (ck20 (ck21 (ck22 (ck23 (ck24 (ck25 (ck26 (ck27 (ck28 (ck29 (ck30 (ck31 (ck32 (ck33 (ck34 (ck35 [])))))))))))))))))))))))))))))))))))⟩ 612, ⟨[]⟩⟩
noncomputable def m37 (_ : Params) : Obj := ⟨.type "dict", none, .dict ⟨ck0 (ck1 (ck2 (ck3 (ck4 (ck5 (ck6 (ck7 (ck8 (ck9 (ck10 (ck11 (ck12 (ck13 (ck14 (ck15 (ck16 (ck17 (ck18 (ck19 (ck20 (ck21 (ck22 (ck23 (ck24 (ck25 (ck26 (ck27 (ck28 (ck29 (ck30 (ck31 (ck32 (ck33 (ck34 (ck35 (ck36 []))))))))))))))))))))))))))))))))))))⟩ 629, ⟨[]⟩⟩
noncomputable def m38 (_ : Params) : Obj := ⟨.type "dict", none, .dict ⟨ck0 (ck1 (ck2 (ck3 (ck4 (ck5 (ck6 (ck7 (ck8 (ck9 (ck10 (ck11 (ck12 (ck13 (ck14 (ck15 (ck16 (ck17 (ck18 (ck19 (ck20 (ck21 (ck22 (ck23 (ck24 (ck25 (ck26 (ck27 (ck28 (ck29 (ck30 (ck31 (ck32 (ck33 (ck34 (ck35 (ck36 (ck37 [])))))))))))))))))))))))))))))))))))))⟩ 646, ⟨[]⟩⟩
noncomputable def tF1 (P : Params) : BT := (tree20 P).ins 138 (m1 P)
noncomputable def tF2 (P : Params) : BT := ((tF1 P).set 138 fun _ => m2 P).ins 139 (s1 P)
noncomputable def tF3 (P : Params) : BT := ((tF2 P).set 138 fun _ => m3 P).ins 140 (s2 P)
noncomputable def tF4 (P : Params) : BT := ((tF3 P).set 138 fun _ => m4 P).ins 141 (s3 P)
noncomputable def tF5 (P : Params) : BT := ((tF4 P).set 138 fun _ => m5 P).ins 142 (s4 P)
noncomputable def tF6 (P : Params) : BT := ((tF5 P).set 138 fun _ => m6 P).ins 143 (s5 P)
noncomputable def tF7 (P : Params) : BT := ((tF6 P).set 138 fun _ => m7 P).ins 144 (s6 P)
noncomputable def tF8 (P : Params) : BT := ((tF7 P).set 138 fun _ => m8 P).ins 145 (s7 P)
noncomputable def tF9 (P : Params) : BT := ((tF8 P).set 138 fun _ => m9 P).ins 146 (s8 P)
noncomputable def tF10 (P : Params) : BT := ((tF9 P).set 138 fun _ => m10 P).ins 147 (s9 P)
noncomputable def tF11 (P : Params) : BT := ((tF10 P).set 138 fun _ => m11 P).ins 148 (s10 P)
noncomputable def tF12 (P : Params) : BT := ((tF11 P).set 138 fun _ => m12 P).ins 149 (s11 P)
noncomputable def tF13 (P : Params) : BT := ((tF12 P).set 138 fun _ => m13 P).ins 150 (s12 P)
noncomputable def tF14 (P : Params) : BT := ((tF13 P).set 138 fun _ => m14 P).ins 151 (s13 P)
noncomputable def tF15 (P : Params) : BT := ((tF14 P).set 138 fun _ => m15 P).ins 152 (s14 P)
noncomputable def tF16 (P : Params) : BT := ((tF15 P).set 138 fun _ => m16 P).ins 153 (s15 P)
noncomputable def tF17 (P : Params) : BT := ((tF16 P).set 138 fun _ => m17 P).ins 154 (s16 P)
noncomputable def tF18 (P : Params) : BT := ((tF17 P).set 138 fun _ => m18 P).ins 155 (s17 P)
noncomputable def tF19 (P : Params) : BT := ((tF18 P).set 138 fun _ => m19 P).ins 156 (s18 P)
noncomputable def tF20 (P : Params) : BT := ((tF19 P).set 138 fun _ => m20 P).ins 157 (s19 P)
noncomputable def tF21 (P : Params) : BT := ((tF20 P).set 138 fun _ => m21 P).ins 158 (s20 P)
noncomputable def tF22 (P : Params) : BT := ((tF21 P).set 138 fun _ => m22 P).ins 159 (s21 P)
noncomputable def tF23 (P : Params) : BT := ((tF22 P).set 138 fun _ => m23 P).ins 160 (s22 P)
noncomputable def tF24 (P : Params) : BT := ((tF23 P).set 138 fun _ => m24 P).ins 161 (s23 P)
noncomputable def tF25 (P : Params) : BT := ((tF24 P).set 138 fun _ => m25 P).ins 162 (s24 P)
noncomputable def tF26 (P : Params) : BT := ((tF25 P).set 138 fun _ => m26 P).ins 163 (s25 P)
noncomputable def tF27 (P : Params) : BT := ((tF26 P).set 138 fun _ => m27 P).ins 164 (s26 P)
noncomputable def tF28 (P : Params) : BT := ((tF27 P).set 138 fun _ => m28 P).ins 165 (s27 P)
noncomputable def tF29 (P : Params) : BT := ((tF28 P).set 138 fun _ => m29 P).ins 166 (s28 P)
noncomputable def tF30 (P : Params) : BT := ((tF29 P).set 138 fun _ => m30 P).ins 167 (s29 P)
noncomputable def tF31 (P : Params) : BT := ((tF30 P).set 138 fun _ => m31 P).ins 168 (s30 P)
noncomputable def tF32 (P : Params) : BT := ((tF31 P).set 138 fun _ => m32 P).ins 169 (s31 P)
noncomputable def tF33 (P : Params) : BT := ((tF32 P).set 138 fun _ => m33 P).ins 170 (s32 P)
noncomputable def tF34 (P : Params) : BT := ((tF33 P).set 138 fun _ => m34 P).ins 171 (s33 P)
noncomputable def tF35 (P : Params) : BT := ((tF34 P).set 138 fun _ => m35 P).ins 172 (s34 P)
noncomputable def tF36 (P : Params) : BT := ((tF35 P).set 138 fun _ => m36 P).ins 173 (s35 P)
noncomputable def tF37 (P : Params) : BT := ((tF36 P).set 138 fun _ => m37 P).ins 174 (s36 P)
noncomputable def tF38 (P : Params) : BT := ((tF37 P).set 138 fun _ => m38 P).ins 175 (s37 P)
end
end Mine
end
section
open PySem PySem.W PyProof.Rows
set_option maxRecDepth 100000
namespace Mine
noncomputable section
noncomputable def dfP : (Addr → Value → Int → Array DictEntry → Sem (Option Nat)) :=
  (⟨_, fun _ _ _ => rfl⟩ : { R : Addr → Value → Int → Array DictEntry → Sem (Option Nat) // ∀ d key h, dictFind d key h = holding [key] (dictEntries d (keyPart key) >>= R d key h) }).1
theorem dfP_eq (d : Addr) (key : Value) (h : Int) : dictFind d key h = holding [key] (dictEntries d (keyPart key) >>= dfP d key h) := rfl
noncomputable def hNe (a b : Int) : Bool := match a, b with
  | .ofNat m, .ofNat n => Bool.not (Nat.beq m n)
  | _, _ => false
theorem hNe_ne {a b : Int} (h : hNe a b = true) : a ≠ b := by
  intro q
  subst q
  cases a with
  | ofNat m =>
    have h : Bool.not (Nat.beq m m) = true := h
    rw [Nat.beq_refl] at h; cases h
  | negSucc m => cases h
noncomputable def noHas (h : Int) : List DictEntry → Bool
  | [] => true
  | e :: r => match hNe e.hash h with
    | true => noHas h r
    | false => false
theorem noHas_get {h : Int} : ∀ (l : List DictEntry), noHas h l = true → ∀ e ∈ l, e.hash ≠ h := by
  intro l
  induction l with
  | nil => intro _ e he; cases he
  | cons x r ih =>
    intro hn e he
    unfold noHas at hn
    cases q : hNe x.hash h with
    | false => rw [q] at hn; cases hn
    | true =>
      rw [q] at hn
      cases he with
      | head => exact hNe_ne q
      | tail _ he => exact ih hn e he
theorem places_nil {h : Int} {es : Array DictEntry} (hn : noHas h es.toList = true) : placesWithHash es.size (fun i => es[i]?.map (·.hash)) h = [] := by
  unfold placesWithHash
  rw [List.filter_eq_nil_iff]
  intro i _ hi
  have hi : (es[i]?.map (·.hash)) = some h := by simpa using hi
  obtain ⟨e, he, hh⟩ := Option.map_eq_some_iff.mp hi
  exact noHas_get _ hn e (List.mem_of_getElem? (by rw [Array.getElem?_toList]; exact he)) hh
theorem dfP_none {d : Addr} {k h : Int} {t : Tok} {es : Array DictEntry} (hn : noHas h es.toList = true) : dfP d (.int k t) h es = pure none := by
  show (if (Value.int k t :: (placesWithHash es.size (fun i => es[i]?.map (·.hash)) h).filterMap fun i => es[i]?.map (·.key)).all carriedByValue = true then _ else _) = _
  rw [places_nil hn]
  rfl
noncomputable def quickNo (key : Value) (h : Int) (es : Array DictEntry) : Bool := match key with
  | .int _ _ => noHas h es.toList
  | _ => false
noncomputable def dictFindQ (d : Addr) (key : Value) (h : Int) : Sem (Option Nat) := holding [key] (dictEntries d (keyPart key) >>= fun es => match quickNo key h es with
  | true => pure none
  | false => dfP d key h es)
theorem dictFindQ_eq : dictFind = dictFindQ := by
  funext d key h
  rw [dfP_eq]
  unfold dictFindQ
  congr 1
  congr 1
  funext es
  cases hq : quickNo key h es with
  | false => rfl
  | true =>
    cases key <;> first | exact dfP_none hq | cases hq
noncomputable def dpQ : { g : Addr → Int → Value → Value → Sem Unit // dictPut = g } := ⟨_, by
  funext d h key v
  unfold dictPut
  rw [dictFindQ_eq]⟩
noncomputable def dictPutQ : Addr → Int → Value → Value → Sem Unit := dpQ.1
theorem dictPutQ_eq : dictPut = dictPutQ := dpQ.2
noncomputable def mmX : { g : Addr → Value → Bool → Sem Unit // mergeMapping = g } := ⟨_, by
  funext d m u
  conv => lhs; unfold mergeMapping; rw [dictPutQ_eq, Fast.te6571733998842723752, Fast.te4214721358667687652, Fast.te12456147031677567982, Fast.te7966671052430208091, Fast.te1156441195427279134, Fast.te8314933798227046258]⟩
noncomputable def mergeQ : Addr → Value → Bool → Sem Unit := mmX.1
theorem mergeQ_eq : mergeMapping = mergeQ := mmX.2
noncomputable def ddY : { g : IT → LS → Sem (ForInStep LS) // ddF = g } := ⟨_, by
  funext x s
  conv => lhs; dsimp only [ddF, ddP]; rw [mergeQ_eq, Fast.te11913375310210876947, Fast.te12456147031677567982]⟩
noncomputable def ddG : IT → LS → Sem (ForInStep LS) := ddY.1
theorem ddG_eq : ddF = ddG := ddY.2
end
end Mine
end
section
open PySem PySem.W PyProof.Rows
set_option maxRecDepth 100000
set_option maxHeartbeats 0
namespace Mine
noncomputable section
noncomputable def Fl (j : Nat) (T T' : Params → BT) (w : World) : Prop :=
  (fun (os : OsState) => segRunT treeTable PySem.Challenge.pw_ta0049_01 w 28 (some (.ref 6)) 1 1000 ⟨T w.params, 138 + j, {}, ⟨[]⟩, {}, 542 + 51 * j, os⟩
    ⟨(ddG (itm (prA j)) (some 138, prR j)).wrap (fun a => .pure (.done (resD a))) deadEnd id id, .body (behindTheImports PySem.Challenge.pw_ta0049_01) myTop.env_1, ⟨56, 16, 56, 8704⟩, [topFrame ⟨0, 0, 0, 0⟩]⟩)
  = fun os => some (.ret (.ref 138), ⟨T' w.params, 139 + j, {}, ⟨[]⟩, {}, 593 + 51 * j, os⟩, .body (behindTheImports PySem.Challenge.pw_ta0049_01) myTop.env_1, ⟨56, 16, 56, 8704⟩)
noncomputable def Fl0 (w : World) : Prop :=
  (fun (os : OsState) => segRunT treeTable PySem.Challenge.pw_ta0049_01 w 28 (some (.ref 6)) 1 1000 ⟨tree20 w.params, 138, {}, ⟨[]⟩, {}, 542, os⟩
    ⟨(ddG (itm (prA 0)) (none, prR 0)).wrap (fun a => .pure (.done (resD a))) deadEnd id id, .body (behindTheImports PySem.Challenge.pw_ta0049_01) myTop.env_1, ⟨56, 16, 56, 8704⟩, [topFrame ⟨0, 0, 0, 0⟩]⟩)
  = fun os => some (.ret (.ref 138), ⟨tF1 w.params, 139, {}, ⟨[]⟩, {}, 593, os⟩, .body (behindTheImports PySem.Challenge.pw_ta0049_01) myTop.env_1, ⟨56, 16, 56, 8704⟩)
end
end Mine
end
section
open PySem PySem.W PyProof.Rows
set_option maxRecDepth 100000
set_option maxHeartbeats 0
namespace Mine
noncomputable def ddZ : { g : LS → Sem Value // ddP.2 = g } := ⟨_, by
  funext s
  conv => lhs; dsimp only [ddP]; rw [mergeQ_eq, Fast.te11913375310210876947, Fast.te12456147031677567982]⟩
noncomputable def ddH : LS → Sem Value := ddZ.1
theorem ddH_eq : ddP.2 = ddH := ddZ.2
noncomputable def tg22 : List Expr := match stAt 22 with
  | .Assign t _ _ => t
  | _ => []
noncomputable def val22 : Expr := match stAt 22 with
  | .Assign _ v _ => v
  | _ => .Constant .none 0 ⟨0, 0, 0, 0⟩
noncomputable def ks22 : List (Option Expr) := match val22 with
  | .Dict ks _ _ => ks
  | _ => []
noncomputable def ap22 : Pos := match stAt 22 with
  | .Assign _ _ p => p
  | _ => ⟨0, 0, 0, 0⟩
theorem stAt22 : stAt 22 = .Assign tg22 (.Dict ks22 b3V b3Pos) ap22 := by kernel_rfl
theorem val22_eq : val22 = .Dict ks22 b3V b3Pos := by kernel_rfl
theorem ks22_eq : ks22 = b3K.map some := by kernel_rfl
noncomputable def asg (v : Value) : Sem Flow := swappedStores tg22 val22 myTop.env_1 >>= fun sw => assignStores myTop.env_1 v sw ((assignEach tg22 myTop.env_1).map (·.2))
noncomputable def its (j : Nat) : List IT := ((prL.drop (17 * j)).map prS).map itm
theorem items_eq (env : Env) (pos : Pos) : ∀ (ks vs : List Expr), (evalEachOpt (ks.map some) env).zip ((evalEach vs env).map fun v => do let x ← v; standAt pos; pure x) = ((ks.zip vs).map fun p => (eval p.1 env, do let x ← eval p.2 env; standAt pos; pure x)).map itm
  | [], vs => by cases vs <;> rfl
  | k :: ks, [] => rfl
  | k :: ks, v :: vs => by
    have ih := items_eq env pos ks vs
    show (some (eval k env), _) :: (evalEachOpt (ks.map some) env).zip ((evalEach vs env).map _) = _ :: _
    rw [ih]
    rfl
theorem exec22 : exec (.Assign tg22 (.Dict ks22 b3V b3Pos) ap22) myTop.env_1 = (standAt ap22 >>= fun _ => (standAt b3Pos >>= fun _ => dictDisplay ((evalEachOpt ks22 myTop.env_1).zip ((evalEach b3V myTop.env_1).map fun v => do let x ← v; standAt b3Pos; pure x))) >>= fun v => swappedStores tg22 (.Dict ks22 b3V b3Pos) myTop.env_1 >>= fun sw => assignStores myTop.env_1 v sw ((assignEach tg22 myTop.env_1).map (·.2))) := by
  kernel_rfl
theorem its0 : (evalEachOpt ks22 myTop.env_1).zip ((evalEach b3V myTop.env_1).map fun v => do let x ← v; standAt b3Pos; pure x) = its 0 := by
  rw [ks22_eq, items_eq]
  rfl
theorem wrap22 (K : Flow → Sem PySem.Fin) (H : Value → Sem PySem.Fin) : (exec (stAt 22) myTop.env_1).wrap K H id id = (standAt ap22 >>= fun _ => standAt b3Pos).wrap (fun _ => (forIn (its 0) ((none, []) : LS) ddF).wrap (fun s => (ddP.2 s).wrap (fun v => (asg v).wrap K H id id) H id id) H id id) H id id := by
  rw [stAt22, exec22, its0, ddP_eq]
  have ea : (fun v => swappedStores tg22 (.Dict ks22 b3V b3Pos) myTop.env_1 >>= fun sw => assignStores myTop.env_1 v sw ((assignEach tg22 myTop.env_1).map (·.2))) = asg := by
    unfold asg; rw [val22_eq]
  rw [ea]
  simp only [bind_wrap]
  rfl
end Mine
end
section
open PySem PySem.W PyProof.Rows
set_option maxRecDepth 100000
set_option maxHeartbeats 0
namespace Mine
noncomputable def FlL (w : World) : Prop :=
  (fun (os : OsState) => segRunT treeTable PySem.Challenge.pw_ta0049_01 w 28 (some (.ref 6)) 1 1000 ⟨tF38 w.params, 176, {}, ⟨[]⟩, {}, 2480, os⟩
    ⟨(forIn (its 38) ((some 138, []) : LS) ddG >>= fun s => ddH s >>= asg).wrap (fun a => .pure (.done (id a))) deadEnd id id, .body (behindTheImports PySem.Challenge.pw_ta0049_01) myTop.env_1, ⟨56, 16, 56, 8704⟩, [topFrame ⟨0, 0, 0, 0⟩]⟩)
  = fun os => some (.next, ⟨tree21 w.params, 177, {}, ⟨[]⟩, {}, 2493, os⟩, .body (behindTheImports PySem.Challenge.pw_ta0049_01) myTop.env_1, ⟨56, 0, 56, 13⟩)
noncomputable def FlS (w : World) : Prop :=
  (fun (os : OsState) => segRunT treeTable PySem.Challenge.pw_ta0049_01 w 28 (some (.ref 6)) 1 10 ⟨tree20 w.params, 138, {}, ⟨[]⟩, {}, 542, os⟩
    ⟨(standAt ap22 >>= fun _ => standAt b3Pos).wrap (fun _ => .pure (.done .next)) deadEnd id id, .body (behindTheImports PySem.Challenge.pw_ta0049_01) myTop.env_1, ⟨54, 0, 55, 30⟩, [topFrame ⟨0, 0, 0, 0⟩]⟩)
  = fun os => some (.next, ⟨tree20 w.params, 138, {}, ⟨[]⟩, {}, 542, os⟩, .body (behindTheImports PySem.Challenge.pw_ta0049_01) myTop.env_1, ⟨56, 16, 56, 8704⟩)
theorem flS (w : World) : FlS w := by
  unfold FlS
  kernel_rfl
end Mine
end
section
open PySem PySem.W PyProof.Rows
set_option maxRecDepth 100000
set_option maxHeartbeats 0
namespace Mine
theorem flL_f (w : World) : FlL (w.withFollow "special-get-raises" false) := by
  unfold FlL
  rw [Fast.te10110043849684766642, Fast.te14364793385576792824, Fast.te12456147031677567982]
  kernel_rfl
theorem flL_t (w : World) : FlL (w.withFollow "special-get-raises" true) := by
  unfold FlL
  rw [Fast.te10110043849684766642, Fast.te14364793385576792824, Fast.te12456147031677567982]
  kernel_rfl
end Mine
end
section
open PySem PySem.W PyProof.Rows
set_option maxRecDepth 100000
set_option maxHeartbeats 0
namespace Mine
theorem st20 (w : World) : St20 w := by
  unfold St20
  rw [Fast.te10110043849684766642, Fast.te14364793385576792824, Fast.te12563942051412417395]
  kernel_rfl
end Mine
end
section
open PySem PySem.W PyProof.Rows
set_option maxRecDepth 100000
set_option maxHeartbeats 0
namespace Mine
theorem st32 (w : World) : St32 w := by
  unfold St32
  rw [Fast.te10110043849684766642, Fast.te14364793385576792824, Fast.te12563942051412417395]
  kernel_rfl
end Mine
end
section
open PySem PySem.W PyProof.Rows
set_option maxRecDepth 100000
set_option maxHeartbeats 0
namespace Mine
theorem fl1_false (w : World) : Fl 1 tF1 tF2 (w.withFollow "special-get-raises" false) := by
  unfold Fl
  rw [Fast.te10110043849684766642, Fast.te14364793385576792824]
  kernel_rfl
theorem fl2_false (w : World) : Fl 2 tF2 tF3 (w.withFollow "special-get-raises" false) := by
  unfold Fl
  rw [Fast.te10110043849684766642, Fast.te14364793385576792824]
  kernel_rfl
theorem fl7_false (w : World) : Fl 7 tF7 tF8 (w.withFollow "special-get-raises" false) := by
  unfold Fl
  rw [Fast.te10110043849684766642, Fast.te14364793385576792824]
  kernel_rfl
theorem fl8_false (w : World) : Fl 8 tF8 tF9 (w.withFollow "special-get-raises" false) := by
  unfold Fl
  rw [Fast.te10110043849684766642, Fast.te14364793385576792824]
  kernel_rfl
theorem fl13_false (w : World) : Fl 13 tF13 tF14 (w.withFollow "special-get-raises" false) := by
  unfold Fl
  rw [Fast.te10110043849684766642, Fast.te14364793385576792824]
  kernel_rfl
theorem fl14_false (w : World) : Fl 14 tF14 tF15 (w.withFollow "special-get-raises" false) := by
  unfold Fl
  rw [Fast.te10110043849684766642, Fast.te14364793385576792824]
  kernel_rfl
theorem fl19_false (w : World) : Fl 19 tF19 tF20 (w.withFollow "special-get-raises" false) := by
  unfold Fl
  rw [Fast.te10110043849684766642, Fast.te14364793385576792824]
  kernel_rfl
theorem fl20_false (w : World) : Fl 20 tF20 tF21 (w.withFollow "special-get-raises" false) := by
  unfold Fl
  rw [Fast.te10110043849684766642, Fast.te14364793385576792824]
  kernel_rfl
theorem fl25_false (w : World) : Fl 25 tF25 tF26 (w.withFollow "special-get-raises" false) := by
  unfold Fl
  rw [Fast.te10110043849684766642, Fast.te14364793385576792824]
  kernel_rfl
theorem fl26_false (w : World) : Fl 26 tF26 tF27 (w.withFollow "special-get-raises" false) := by
  unfold Fl
  rw [Fast.te10110043849684766642, Fast.te14364793385576792824]
  kernel_rfl
theorem fl31_false (w : World) : Fl 31 tF31 tF32 (w.withFollow "special-get-raises" false) := by
  unfold Fl
  rw [Fast.te10110043849684766642, Fast.te14364793385576792824]
  kernel_rfl
theorem fl32_false (w : World) : Fl 32 tF32 tF33 (w.withFollow "special-get-raises" false) := by
  unfold Fl
  rw [Fast.te10110043849684766642, Fast.te14364793385576792824]
  kernel_rfl
theorem fl37_false (w : World) : Fl 37 tF37 tF38 (w.withFollow "special-get-raises" false) := by
  unfold Fl
  rw [Fast.te10110043849684766642, Fast.te14364793385576792824]
  kernel_rfl
end Mine
end
section
open PySem PySem.W PyProof.Rows
set_option maxRecDepth 100000
set_option maxHeartbeats 0
namespace Mine
theorem fl1_true (w : World) : Fl 1 tF1 tF2 (w.withFollow "special-get-raises" true) := by
  unfold Fl
  rw [Fast.te10110043849684766642, Fast.te14364793385576792824]
  kernel_rfl
theorem fl2_true (w : World) : Fl 2 tF2 tF3 (w.withFollow "special-get-raises" true) := by
  unfold Fl
  rw [Fast.te10110043849684766642, Fast.te14364793385576792824]
  kernel_rfl
theorem fl7_true (w : World) : Fl 7 tF7 tF8 (w.withFollow "special-get-raises" true) := by
  unfold Fl
  rw [Fast.te10110043849684766642, Fast.te14364793385576792824]
  kernel_rfl
theorem fl8_true (w : World) : Fl 8 tF8 tF9 (w.withFollow "special-get-raises" true) := by
  unfold Fl
  rw [Fast.te10110043849684766642, Fast.te14364793385576792824]
  kernel_rfl
theorem fl13_true (w : World) : Fl 13 tF13 tF14 (w.withFollow "special-get-raises" true) := by
  unfold Fl
  rw [Fast.te10110043849684766642, Fast.te14364793385576792824]
  kernel_rfl
theorem fl14_true (w : World) : Fl 14 tF14 tF15 (w.withFollow "special-get-raises" true) := by
  unfold Fl
  rw [Fast.te10110043849684766642, Fast.te14364793385576792824]
  kernel_rfl
theorem fl19_true (w : World) : Fl 19 tF19 tF20 (w.withFollow "special-get-raises" true) := by
  unfold Fl
  rw [Fast.te10110043849684766642, Fast.te14364793385576792824]
  kernel_rfl
theorem fl20_true (w : World) : Fl 20 tF20 tF21 (w.withFollow "special-get-raises" true) := by
  unfold Fl
  rw [Fast.te10110043849684766642, Fast.te14364793385576792824]
  kernel_rfl
theorem fl25_true (w : World) : Fl 25 tF25 tF26 (w.withFollow "special-get-raises" true) := by
  unfold Fl
  rw [Fast.te10110043849684766642, Fast.te14364793385576792824]
  kernel_rfl
theorem fl26_true (w : World) : Fl 26 tF26 tF27 (w.withFollow "special-get-raises" true) := by
  unfold Fl
  rw [Fast.te10110043849684766642, Fast.te14364793385576792824]
  kernel_rfl
theorem fl31_true (w : World) : Fl 31 tF31 tF32 (w.withFollow "special-get-raises" true) := by
  unfold Fl
  rw [Fast.te10110043849684766642, Fast.te14364793385576792824]
  kernel_rfl
theorem fl32_true (w : World) : Fl 32 tF32 tF33 (w.withFollow "special-get-raises" true) := by
  unfold Fl
  rw [Fast.te10110043849684766642, Fast.te14364793385576792824]
  kernel_rfl
theorem fl37_true (w : World) : Fl 37 tF37 tF38 (w.withFollow "special-get-raises" true) := by
  unfold Fl
  rw [Fast.te10110043849684766642, Fast.te14364793385576792824]
  kernel_rfl
end Mine
end
section
open PySem PySem.W PyProof.Rows
set_option maxRecDepth 100000
set_option maxHeartbeats 0
namespace Mine
theorem fl0_false (w : World) : Fl0 (w.withFollow "special-get-raises" false) := by
  unfold Fl0
  rw [Fast.te10110043849684766642, Fast.te14364793385576792824]
  kernel_rfl
theorem fl3_false (w : World) : Fl 3 tF3 tF4 (w.withFollow "special-get-raises" false) := by
  unfold Fl
  rw [Fast.te10110043849684766642, Fast.te14364793385576792824]
  kernel_rfl
theorem fl6_false (w : World) : Fl 6 tF6 tF7 (w.withFollow "special-get-raises" false) := by
  unfold Fl
  rw [Fast.te10110043849684766642, Fast.te14364793385576792824]
  kernel_rfl
theorem fl9_false (w : World) : Fl 9 tF9 tF10 (w.withFollow "special-get-raises" false) := by
  unfold Fl
  rw [Fast.te10110043849684766642, Fast.te14364793385576792824]
  kernel_rfl
theorem fl12_false (w : World) : Fl 12 tF12 tF13 (w.withFollow "special-get-raises" false) := by
  unfold Fl
  rw [Fast.te10110043849684766642, Fast.te14364793385576792824]
  kernel_rfl
theorem fl15_false (w : World) : Fl 15 tF15 tF16 (w.withFollow "special-get-raises" false) := by
  unfold Fl
  rw [Fast.te10110043849684766642, Fast.te14364793385576792824]
  kernel_rfl
theorem fl18_false (w : World) : Fl 18 tF18 tF19 (w.withFollow "special-get-raises" false) := by
  unfold Fl
  rw [Fast.te10110043849684766642, Fast.te14364793385576792824]
  kernel_rfl
theorem fl21_false (w : World) : Fl 21 tF21 tF22 (w.withFollow "special-get-raises" false) := by
  unfold Fl
  rw [Fast.te10110043849684766642, Fast.te14364793385576792824]
  kernel_rfl
theorem fl24_false (w : World) : Fl 24 tF24 tF25 (w.withFollow "special-get-raises" false) := by
  unfold Fl
  rw [Fast.te10110043849684766642, Fast.te14364793385576792824]
  kernel_rfl
theorem fl27_false (w : World) : Fl 27 tF27 tF28 (w.withFollow "special-get-raises" false) := by
  unfold Fl
  rw [Fast.te10110043849684766642, Fast.te14364793385576792824]
  kernel_rfl
theorem fl30_false (w : World) : Fl 30 tF30 tF31 (w.withFollow "special-get-raises" false) := by
  unfold Fl
  rw [Fast.te10110043849684766642, Fast.te14364793385576792824]
  kernel_rfl
theorem fl33_false (w : World) : Fl 33 tF33 tF34 (w.withFollow "special-get-raises" false) := by
  unfold Fl
  rw [Fast.te10110043849684766642, Fast.te14364793385576792824]
  kernel_rfl
theorem fl36_false (w : World) : Fl 36 tF36 tF37 (w.withFollow "special-get-raises" false) := by
  unfold Fl
  rw [Fast.te10110043849684766642, Fast.te14364793385576792824]
  kernel_rfl
end Mine
end
section
open PySem PySem.W PyProof.Rows
set_option maxRecDepth 100000
set_option maxHeartbeats 0
namespace Mine
theorem fl0_true (w : World) : Fl0 (w.withFollow "special-get-raises" true) := by
  unfold Fl0
  rw [Fast.te10110043849684766642, Fast.te14364793385576792824]
  kernel_rfl
theorem fl3_true (w : World) : Fl 3 tF3 tF4 (w.withFollow "special-get-raises" true) := by
  unfold Fl
  rw [Fast.te10110043849684766642, Fast.te14364793385576792824]
  kernel_rfl
theorem fl6_true (w : World) : Fl 6 tF6 tF7 (w.withFollow "special-get-raises" true) := by
  unfold Fl
  rw [Fast.te10110043849684766642, Fast.te14364793385576792824]
  kernel_rfl
theorem fl9_true (w : World) : Fl 9 tF9 tF10 (w.withFollow "special-get-raises" true) := by
  unfold Fl
  rw [Fast.te10110043849684766642, Fast.te14364793385576792824]
  kernel_rfl
theorem fl12_true (w : World) : Fl 12 tF12 tF13 (w.withFollow "special-get-raises" true) := by
  unfold Fl
  rw [Fast.te10110043849684766642, Fast.te14364793385576792824]
  kernel_rfl
theorem fl15_true (w : World) : Fl 15 tF15 tF16 (w.withFollow "special-get-raises" true) := by
  unfold Fl
  rw [Fast.te10110043849684766642, Fast.te14364793385576792824]
  kernel_rfl
theorem fl18_true (w : World) : Fl 18 tF18 tF19 (w.withFollow "special-get-raises" true) := by
  unfold Fl
  rw [Fast.te10110043849684766642, Fast.te14364793385576792824]
  kernel_rfl
theorem fl21_true (w : World) : Fl 21 tF21 tF22 (w.withFollow "special-get-raises" true) := by
  unfold Fl
  rw [Fast.te10110043849684766642, Fast.te14364793385576792824]
  kernel_rfl
theorem fl24_true (w : World) : Fl 24 tF24 tF25 (w.withFollow "special-get-raises" true) := by
  unfold Fl
  rw [Fast.te10110043849684766642, Fast.te14364793385576792824]
  kernel_rfl
theorem fl27_true (w : World) : Fl 27 tF27 tF28 (w.withFollow "special-get-raises" true) := by
  unfold Fl
  rw [Fast.te10110043849684766642, Fast.te14364793385576792824]
  kernel_rfl
theorem fl30_true (w : World) : Fl 30 tF30 tF31 (w.withFollow "special-get-raises" true) := by
  unfold Fl
  rw [Fast.te10110043849684766642, Fast.te14364793385576792824]
  kernel_rfl
theorem fl33_true (w : World) : Fl 33 tF33 tF34 (w.withFollow "special-get-raises" true) := by
  unfold Fl
  rw [Fast.te10110043849684766642, Fast.te14364793385576792824]
  kernel_rfl
theorem fl36_true (w : World) : Fl 36 tF36 tF37 (w.withFollow "special-get-raises" true) := by
  unfold Fl
  rw [Fast.te10110043849684766642, Fast.te14364793385576792824]
  kernel_rfl
end Mine
end
section
open PySem PySem.W PyProof.Rows
set_option maxRecDepth 100000
set_option maxHeartbeats 0
namespace Mine
theorem fl4_false (w : World) : Fl 4 tF4 tF5 (w.withFollow "special-get-raises" false) := by
  unfold Fl
  rw [Fast.te10110043849684766642, Fast.te14364793385576792824]
  kernel_rfl
theorem fl5_false (w : World) : Fl 5 tF5 tF6 (w.withFollow "special-get-raises" false) := by
  unfold Fl
  rw [Fast.te10110043849684766642, Fast.te14364793385576792824]
  kernel_rfl
theorem fl10_false (w : World) : Fl 10 tF10 tF11 (w.withFollow "special-get-raises" false) := by
  unfold Fl
  rw [Fast.te10110043849684766642, Fast.te14364793385576792824]
  kernel_rfl
theorem fl11_false (w : World) : Fl 11 tF11 tF12 (w.withFollow "special-get-raises" false) := by
  unfold Fl
  rw [Fast.te10110043849684766642, Fast.te14364793385576792824]
  kernel_rfl
theorem fl16_false (w : World) : Fl 16 tF16 tF17 (w.withFollow "special-get-raises" false) := by
  unfold Fl
  rw [Fast.te10110043849684766642, Fast.te14364793385576792824]
  kernel_rfl
theorem fl17_false (w : World) : Fl 17 tF17 tF18 (w.withFollow "special-get-raises" false) := by
  unfold Fl
  rw [Fast.te10110043849684766642, Fast.te14364793385576792824]
  kernel_rfl
theorem fl22_false (w : World) : Fl 22 tF22 tF23 (w.withFollow "special-get-raises" false) := by
  unfold Fl
  rw [Fast.te10110043849684766642, Fast.te14364793385576792824]
  kernel_rfl
theorem fl23_false (w : World) : Fl 23 tF23 tF24 (w.withFollow "special-get-raises" false) := by
  unfold Fl
  rw [Fast.te10110043849684766642, Fast.te14364793385576792824]
  kernel_rfl
theorem fl28_false (w : World) : Fl 28 tF28 tF29 (w.withFollow "special-get-raises" false) := by
  unfold Fl
  rw [Fast.te10110043849684766642, Fast.te14364793385576792824]
  kernel_rfl
theorem fl29_false (w : World) : Fl 29 tF29 tF30 (w.withFollow "special-get-raises" false) := by
  unfold Fl
  rw [Fast.te10110043849684766642, Fast.te14364793385576792824]
  kernel_rfl
theorem fl34_false (w : World) : Fl 34 tF34 tF35 (w.withFollow "special-get-raises" false) := by
  unfold Fl
  rw [Fast.te10110043849684766642, Fast.te14364793385576792824]
  kernel_rfl
theorem fl35_false (w : World) : Fl 35 tF35 tF36 (w.withFollow "special-get-raises" false) := by
  unfold Fl
  rw [Fast.te10110043849684766642, Fast.te14364793385576792824]
  kernel_rfl
end Mine
end
section
open PySem PySem.W PyProof.Rows
set_option maxRecDepth 100000
set_option maxHeartbeats 0
namespace Mine
theorem fl4_true (w : World) : Fl 4 tF4 tF5 (w.withFollow "special-get-raises" true) := by
  unfold Fl
  rw [Fast.te10110043849684766642, Fast.te14364793385576792824]
  kernel_rfl
theorem fl5_true (w : World) : Fl 5 tF5 tF6 (w.withFollow "special-get-raises" true) := by
  unfold Fl
  rw [Fast.te10110043849684766642, Fast.te14364793385576792824]
  kernel_rfl
theorem fl10_true (w : World) : Fl 10 tF10 tF11 (w.withFollow "special-get-raises" true) := by
  unfold Fl
  rw [Fast.te10110043849684766642, Fast.te14364793385576792824]
  kernel_rfl
theorem fl11_true (w : World) : Fl 11 tF11 tF12 (w.withFollow "special-get-raises" true) := by
  unfold Fl
  rw [Fast.te10110043849684766642, Fast.te14364793385576792824]
  kernel_rfl
theorem fl16_true (w : World) : Fl 16 tF16 tF17 (w.withFollow "special-get-raises" true) := by
  unfold Fl
  rw [Fast.te10110043849684766642, Fast.te14364793385576792824]
  kernel_rfl
theorem fl17_true (w : World) : Fl 17 tF17 tF18 (w.withFollow "special-get-raises" true) := by
  unfold Fl
  rw [Fast.te10110043849684766642, Fast.te14364793385576792824]
  kernel_rfl
theorem fl22_true (w : World) : Fl 22 tF22 tF23 (w.withFollow "special-get-raises" true) := by
  unfold Fl
  rw [Fast.te10110043849684766642, Fast.te14364793385576792824]
  kernel_rfl
theorem fl23_true (w : World) : Fl 23 tF23 tF24 (w.withFollow "special-get-raises" true) := by
  unfold Fl
  rw [Fast.te10110043849684766642, Fast.te14364793385576792824]
  kernel_rfl
theorem fl28_true (w : World) : Fl 28 tF28 tF29 (w.withFollow "special-get-raises" true) := by
  unfold Fl
  rw [Fast.te10110043849684766642, Fast.te14364793385576792824]
  kernel_rfl
theorem fl29_true (w : World) : Fl 29 tF29 tF30 (w.withFollow "special-get-raises" true) := by
  unfold Fl
  rw [Fast.te10110043849684766642, Fast.te14364793385576792824]
  kernel_rfl
theorem fl34_true (w : World) : Fl 34 tF34 tF35 (w.withFollow "special-get-raises" true) := by
  unfold Fl
  rw [Fast.te10110043849684766642, Fast.te14364793385576792824]
  kernel_rfl
theorem fl35_true (w : World) : Fl 35 tF35 tF36 (w.withFollow "special-get-raises" true) := by
  unfold Fl
  rw [Fast.te10110043849684766642, Fast.te14364793385576792824]
  kernel_rfl
end Mine
end
section
open PySem PySem.W PyProof.Rows
set_option maxRecDepth 100000
set_option maxHeartbeats 0
namespace Mine
noncomputable abbrev dp3 : Pos := ⟨56, 16, 56, 8704⟩
theorem its_split {j : Nat} (h : 17 * j + 17 ≤ prL.length) : its j = (prR j).map itm ++ itm (prA j) :: its (j + 1) := by
  unfold its prR prA
  have e1 : prL.drop (17 * j) = (prL.drop (17 * j)).take 16 ++ prL.drop (17 * j + 16) := by
    rw [← List.drop_drop]; exact (List.take_append_drop 16 _).symm
  have e2 : ∃ p, prL.drop (17 * j + 16) = p :: prL.drop (17 * (j + 1)) := by
    have hl : 17 * j + 16 < prL.length := by omega
    exact ⟨prL[17 * j + 16], by rw [List.drop_eq_getElem_cons hl, show 17 * j + 16 + 1 = 17 * (j + 1) by omega]⟩
  obtain ⟨p, hp⟩ := e2
  rw [hp]
  conv => lhs; rw [e1, hp]
  rw [List.map_append, List.map_append, List.map_cons, List.map_cons]
theorem prL_len : prL.length = 650 := by kernel_rfl
theorem prR_len (j : Nat) : (prR j).length ≤ 16 := by
  unfold prR
  rw [List.length_map, List.length_take]; omega
section
variable {w : World} {os : OsState} {K : LS → Sem PySem.Fin} {H : Value → Sem PySem.Fin} {N : Nat} {r : Shared}
theorem step_fl {j : Nat} {T T' : Params → BT} (h : Fl j T T' w) (hj : 17 * j + 17 ≤ 650) (n n' t t' j' : Nat) (e1 : 138 + j = n) (e2 : 139 + j = n') (e3 : 542 + 51 * j = t) (e4 : 593 + 51 * j = t') (e5 : j + 1 = j')
    (k : topRun treeTable PySem.Challenge.pw_ta0049_01 w 28 (some (.ref 6)) N (SharedT.abs ⟨T' w.params, n', {}, ⟨[]⟩, {}, t', os⟩) ⟨(forIn (its j') ((some 138, []) : LS) ddF).wrap K H id id, .body (behindTheImports PySem.Challenge.pw_ta0049_01) myTop.env_1, dp3, [topFrame ⟨0, 0, 0, 0⟩]⟩ = some r) :
    topRun treeTable PySem.Challenge.pw_ta0049_01 w 28 (some (.ref 6)) (1000 + N) (SharedT.abs ⟨T w.params, n, {}, ⟨[]⟩, {}, t, os⟩) ⟨(forIn (its j) ((some 138, []) : LS) ddF).wrap K H id id, .body (behindTheImports PySem.Challenge.pw_ta0049_01) myTop.env_1, dp3, [topFrame ⟨0, 0, 0, 0⟩]⟩ = some r := by
  subst e1 e2 e3 e4 e5
  have h1 := congrFun h os
  rw [its_split (by rw [prL_len]; exact hj)]
  refine top_flush (prR_len j) ?_ k
  rw [ddG_eq]; exact h1
theorem step_fl0 (h : Fl0 w)
    (k : topRun treeTable PySem.Challenge.pw_ta0049_01 w 28 (some (.ref 6)) N (SharedT.abs ⟨tF1 w.params, 139, {}, ⟨[]⟩, {}, 593, os⟩) ⟨(forIn (its 1) ((some 138, []) : LS) ddF).wrap K H id id, .body (behindTheImports PySem.Challenge.pw_ta0049_01) myTop.env_1, dp3, [topFrame ⟨0, 0, 0, 0⟩]⟩ = some r) :
    topRun treeTable PySem.Challenge.pw_ta0049_01 w 28 (some (.ref 6)) (1000 + N) (SharedT.abs ⟨tree20 w.params, 138, {}, ⟨[]⟩, {}, 542, os⟩) ⟨(forIn (its 0) ((none, []) : LS) ddF).wrap K H id id, .body (behindTheImports PySem.Challenge.pw_ta0049_01) myTop.env_1, dp3, [topFrame ⟨0, 0, 0, 0⟩]⟩ = some r := by
  have h1 := congrFun h os
  rw [its_split (by rw [prL_len]; decide)]
  refine top_flush (prR_len 0) ?_ k
  rw [ddG_eq]; exact h1
end
end Mine
end
section
open PySem PySem.W PyProof.Rows
set_option maxRecDepth 100000
set_option maxHeartbeats 0
namespace Mine
structure FlAll (w : World) : Prop where
  f0 : Fl0 w
  f1 : Fl 1 tF1 tF2 w
  f2 : Fl 2 tF2 tF3 w
  f3 : Fl 3 tF3 tF4 w
  f4 : Fl 4 tF4 tF5 w
  f5 : Fl 5 tF5 tF6 w
  f6 : Fl 6 tF6 tF7 w
  f7 : Fl 7 tF7 tF8 w
  f8 : Fl 8 tF8 tF9 w
  f9 : Fl 9 tF9 tF10 w
  f10 : Fl 10 tF10 tF11 w
  f11 : Fl 11 tF11 tF12 w
  f12 : Fl 12 tF12 tF13 w
  f13 : Fl 13 tF13 tF14 w
  f14 : Fl 14 tF14 tF15 w
  f15 : Fl 15 tF15 tF16 w
  f16 : Fl 16 tF16 tF17 w
  f17 : Fl 17 tF17 tF18 w
  f18 : Fl 18 tF18 tF19 w
  f19 : Fl 19 tF19 tF20 w
  f20 : Fl 20 tF20 tF21 w
  f21 : Fl 21 tF21 tF22 w
  f22 : Fl 22 tF22 tF23 w
  f23 : Fl 23 tF23 tF24 w
  f24 : Fl 24 tF24 tF25 w
  f25 : Fl 25 tF25 tF26 w
  f26 : Fl 26 tF26 tF27 w
  f27 : Fl 27 tF27 tF28 w
  f28 : Fl 28 tF28 tF29 w
  f29 : Fl 29 tF29 tF30 w
  f30 : Fl 30 tF30 tF31 w
  f31 : Fl 31 tF31 tF32 w
  f32 : Fl 32 tF32 tF33 w
  f33 : Fl 33 tF33 tF34 w
  f34 : Fl 34 tF34 tF35 w
  f35 : Fl 35 tF35 tF36 w
  f36 : Fl 36 tF36 tF37 w
  f37 : Fl 37 tF37 tF38 w
  fl : FlL w
theorem flAll_f (w : World) : FlAll (w.withFollow "special-get-raises" false) := ⟨fl0_false w, fl1_false w, fl2_false w, fl3_false w, fl4_false w, fl5_false w, fl6_false w, fl7_false w, fl8_false w, fl9_false w, fl10_false w, fl11_false w, fl12_false w, fl13_false w, fl14_false w, fl15_false w, fl16_false w, fl17_false w, fl18_false w, fl19_false w, fl20_false w, fl21_false w, fl22_false w, fl23_false w, fl24_false w, fl25_false w, fl26_false w, fl27_false w, fl28_false w, fl29_false w, fl30_false w, fl31_false w, fl32_false w, fl33_false w, fl34_false w, fl35_false w, fl36_false w, fl37_false w, flL_f w⟩
theorem flAll_t (w : World) : FlAll (w.withFollow "special-get-raises" true) := ⟨fl0_true w, fl1_true w, fl2_true w, fl3_true w, fl4_true w, fl5_true w, fl6_true w, fl7_true w, fl8_true w, fl9_true w, fl10_true w, fl11_true w, fl12_true w, fl13_true w, fl14_true w, fl15_true w, fl16_true w, fl17_true w, fl18_true w, fl19_true w, fl20_true w, fl21_true w, fl22_true w, fl23_true w, fl24_true w, fl25_true w, fl26_true w, fl27_true w, fl28_true w, fl29_true w, fl30_true w, fl31_true w, fl32_true w, fl33_true w, fl34_true w, fl35_true w, fl36_true w, fl37_true w, flL_t w⟩
theorem flAll (w : World) : FlAll w := byRow2 "special-get-raises" flAll_f flAll_t w
end Mine
end
section
open PySem PySem.W PyProof.Rows
set_option maxRecDepth 100000
set_option maxHeartbeats 0
namespace Mine
theorem piece21 {w : World} {os : OsState} {rest : List Stmt} {N : Nat} {r : Shared}
    (k : topRun treeTable PySem.Challenge.pw_ta0049_01 w 28 (some (.ref 6)) N (SharedT.abs ⟨tree21 w.params, 177, {}, ⟨[]⟩, {}, 2493, os⟩) (restOf rest myTop.env_1 (.body (behindTheImports PySem.Challenge.pw_ta0049_01) myTop.env_1) ⟨56, 0, 56, 13⟩ [topFrame ⟨0, 0, 0, 0⟩]) = some r) :
    topRun treeTable PySem.Challenge.pw_ta0049_01 w 28 (some (.ref 6)) (10 + (1000 + (1000 + (1000 + (1000 + (1000 + (1000 + (1000 + (1000 + (1000 + (1000 + (1000 + (1000 + (1000 + (1000 + (1000 + (1000 + (1000 + (1000 + (1000 + (1000 + (1000 + (1000 + (1000 + (1000 + (1000 + (1000 + (1000 + (1000 + (1000 + (1000 + (1000 + (1000 + (1000 + (1000 + (1000 + (1000 + (1000 + (1000 + (1000 + N)))))))))))))))))))))))))))))))))))))))) (SharedT.abs ⟨tree20 w.params, 138, {}, ⟨[]⟩, {}, 542, os⟩) (restOf (stAt 22 :: rest) myTop.env_1 (.body (behindTheImports PySem.Challenge.pw_ta0049_01) myTop.env_1) ⟨54, 0, 55, 30⟩ [topFrame ⟨0, 0, 0, 0⟩]) = some r := by
  have F := flAll w
  unfold restOf
  rw [execs_cons_wrap, wrap22]
  refine top_x (res := fun _ => .next) (a := ()) (congrFun (flS w) os) (fun _ _ => rfl) ?_
  refine step_fl0 F.f0 ?_
  refine step_fl F.f1 (by decide) 139 140 593 644 2 rfl rfl rfl rfl rfl ?_
  refine step_fl F.f2 (by decide) 140 141 644 695 3 rfl rfl rfl rfl rfl ?_
  refine step_fl F.f3 (by decide) 141 142 695 746 4 rfl rfl rfl rfl rfl ?_
  refine step_fl F.f4 (by decide) 142 143 746 797 5 rfl rfl rfl rfl rfl ?_
  refine step_fl F.f5 (by decide) 143 144 797 848 6 rfl rfl rfl rfl rfl ?_
  refine step_fl F.f6 (by decide) 144 145 848 899 7 rfl rfl rfl rfl rfl ?_
  refine step_fl F.f7 (by decide) 145 146 899 950 8 rfl rfl rfl rfl rfl ?_
  refine step_fl F.f8 (by decide) 146 147 950 1001 9 rfl rfl rfl rfl rfl ?_
  refine step_fl F.f9 (by decide) 147 148 1001 1052 10 rfl rfl rfl rfl rfl ?_
  refine step_fl F.f10 (by decide) 148 149 1052 1103 11 rfl rfl rfl rfl rfl ?_
  refine step_fl F.f11 (by decide) 149 150 1103 1154 12 rfl rfl rfl rfl rfl ?_
  refine step_fl F.f12 (by decide) 150 151 1154 1205 13 rfl rfl rfl rfl rfl ?_
  refine step_fl F.f13 (by decide) 151 152 1205 1256 14 rfl rfl rfl rfl rfl ?_
  refine step_fl F.f14 (by decide) 152 153 1256 1307 15 rfl rfl rfl rfl rfl ?_
  refine step_fl F.f15 (by decide) 153 154 1307 1358 16 rfl rfl rfl rfl rfl ?_
  refine step_fl F.f16 (by decide) 154 155 1358 1409 17 rfl rfl rfl rfl rfl ?_
  refine step_fl F.f17 (by decide) 155 156 1409 1460 18 rfl rfl rfl rfl rfl ?_
  refine step_fl F.f18 (by decide) 156 157 1460 1511 19 rfl rfl rfl rfl rfl ?_
  refine step_fl F.f19 (by decide) 157 158 1511 1562 20 rfl rfl rfl rfl rfl ?_
  refine step_fl F.f20 (by decide) 158 159 1562 1613 21 rfl rfl rfl rfl rfl ?_
  refine step_fl F.f21 (by decide) 159 160 1613 1664 22 rfl rfl rfl rfl rfl ?_
  refine step_fl F.f22 (by decide) 160 161 1664 1715 23 rfl rfl rfl rfl rfl ?_
  refine step_fl F.f23 (by decide) 161 162 1715 1766 24 rfl rfl rfl rfl rfl ?_
  refine step_fl F.f24 (by decide) 162 163 1766 1817 25 rfl rfl rfl rfl rfl ?_
  refine step_fl F.f25 (by decide) 163 164 1817 1868 26 rfl rfl rfl rfl rfl ?_
  refine step_fl F.f26 (by decide) 164 165 1868 1919 27 rfl rfl rfl rfl rfl ?_
  refine step_fl F.f27 (by decide) 165 166 1919 1970 28 rfl rfl rfl rfl rfl ?_
  refine step_fl F.f28 (by decide) 166 167 1970 2021 29 rfl rfl rfl rfl rfl ?_
  refine step_fl F.f29 (by decide) 167 168 2021 2072 30 rfl rfl rfl rfl rfl ?_
  refine step_fl F.f30 (by decide) 168 169 2072 2123 31 rfl rfl rfl rfl rfl ?_
  refine step_fl F.f31 (by decide) 169 170 2123 2174 32 rfl rfl rfl rfl rfl ?_
  refine step_fl F.f32 (by decide) 170 171 2174 2225 33 rfl rfl rfl rfl rfl ?_
  refine step_fl F.f33 (by decide) 171 172 2225 2276 34 rfl rfl rfl rfl rfl ?_
  refine step_fl F.f34 (by decide) 172 173 2276 2327 35 rfl rfl rfl rfl rfl ?_
  refine step_fl F.f35 (by decide) 173 174 2327 2378 36 rfl rfl rfl rfl rfl ?_
  refine step_fl F.f36 (by decide) 174 175 2378 2429 37 rfl rfl rfl rfl rfl ?_
  refine step_fl F.f37 (by decide) 175 176 2429 2480 38 rfl rfl rfl rfl rfl ?_
  have e : ∀ (K0 : Flow → Sem PySem.Fin) (H0 : Value → Sem PySem.Fin), (forIn (its 38) ((some 138, []) : LS) ddF).wrap (fun s => (ddP.2 s).wrap (fun v => (asg v).wrap K0 H0 id id) H0 id id) H0 id id = (forIn (its 38) ((some 138, []) : LS) ddG >>= fun s => ddH s >>= asg).wrap K0 H0 id id := fun K0 H0 => by
    rw [← ddG_eq, ← ddH_eq]
    simp only [bind_wrap]
  rw [e]
  exact top_x (res := id) (a := .next) (congrFun F.fl os) (fun a h => h) k
end Mine
end
section
open PySem PySem.W PyProof.Rows
set_option maxRecDepth 100000
set_option maxHeartbeats 0
namespace Mine
noncomputable section
noncomputable def qE11 (P : Params) : Obj := ⟨(.type "dict"), none, .dict ⟨[en P "__name__" 247 (.str (Str.ofString "_sre") 246), en P "__doc__" 248 .none, en P "__package__" 250 (.str (Str.ofString "") 249), en P "__loader__" 251 (.ref 14), en P "__spec__" 252 (.ref 26), en P "compile" 253 (.builtin "_sre.compile"), en P "template" 254 (.builtin "_sre.template"), en P "getcodesize" 255 (.builtin "_sre.getcodesize"), en P "ascii_iscased" 256 (.builtin "_sre.ascii_iscased"), en P "unicode_iscased" 257 (.builtin "_sre.unicode_iscased"), en P "ascii_tolower" 258 (.builtin "_sre.ascii_tolower"), en P "unicode_tolower" 259 (.builtin "_sre.unicode_tolower"), en P "MAGIC" 261 (.int (20230612) 260), en P "CODESIZE" 263 (.int (4) 262), en P "MAXREPEAT" 265 (.int (4294967295) 264), en P "MAXGROUPS" 267 (.int (1073741823) 266), en P "copyright" 269 (.str (Str.ofString " SRE 2.2.2 Copyright (c) 1997-2002 by Secret Labs AB ") 268)]⟩ 17, ⟨[]⟩⟩
noncomputable def tree0 (P : Params) : BT := (.node (myTop.o_1 P) (.node (myTop.o_2 P) (.node (myTop.o_4 P) (.node (myTop.o_8 P) (.node (myTop.o_16 P) .nil .nil) (.node (myTop.o_24 P) .nil .nil)) (.node (myTop.o_12 P) (.node (myTop.o_20 P) .nil .nil) (.node (myTop.o_28 P) .nil .nil))) (.node (myTop.o_6 P) (.node (myTop.o_10 P) (.node (myTop.o_18 P) .nil .nil) (.node (myTop.o_26 P) .nil .nil)) (.node (myTop.o_14 P) (.node (myTop.o_22 P) .nil .nil) .nil))) (.node (myTop.o_3 P) (.node (myTop.o_5 P) (.node (myTop.o_9 P) (.node (myTop.o_17 P) .nil .nil) (.node (myTop.o_25 P) .nil .nil)) (.node (myTop.o_13 P) (.node (myTop.o_21 P) .nil .nil) .nil)) (.node (myTop.o_7 P) (.node (myTop.o_11 P) (.node (myTop.o_19 P) .nil .nil) (.node (myTop.o_27 P) .nil .nil)) (.node (myTop.o_15 P) (.node (myTop.o_23 P) .nil .nil) .nil))))
noncomputable def treeE (P : Params) : BT := (tree0 P).set 11 fun _ => qE11 P
noncomputable def HeE (P : Params) : Heap := absHeap (treeE P) 28 {}
noncomputable def H0E (P : Params) : Heap := absHeap (tree0 P) 28 {}
noncomputable def H1E (P : Params) : Heap := absHeap (tree32 P) 235 {}
noncomputable def OpenE (w : World) : Prop := importEnds treeTable (opening PySem.Challenge.pw_ta0049_01) w 900 (start (opening PySem.Challenge.pw_ta0049_01)).1 (start (opening PySem.Challenge.pw_ta0049_01)).2 = some ⟨HeE w.params, ⟨[]⟩, {}, 276, (start (opening PySem.Challenge.pw_ta0049_01)).1.os⟩
noncomputable def FenceE (w : World) : Prop := (fun os => (fenceModules? PySem.Challenge.pw_ta0049_01 ⟨HeE w.params, ⟨[]⟩, {}, 276, os⟩).map (fun s => (s.heap, s.gens, s.drawn, s.toks))) = fun _ => some (H0E w.params, (⟨[]⟩ : Array GenState), ({} : Drawn), 276)
noncomputable def PreE (w : World) : Prop := (fun os => topGo treeTable PySem.Challenge.pw_ta0049_01 w 28 (some (.ref 6)) 12 ⟨H0E w.params, ⟨[]⟩, {}, 276, os⟩ (topStub PySem.Challenge.pw_ta0049_01)) = fun os => some (SharedT.abs ⟨myTop.tree_32 w.params, 32, {}, ⟨[]⟩, {}, 282, os⟩, ⟨denote treeTable (.body (behindTheImports PySem.Challenge.pw_ta0049_01) myTop.env_1), .body (behindTheImports PySem.Challenge.pw_ta0049_01) myTop.env_1, ⟨0, 0, 0, 0⟩, [topFrame ⟨0, 0, 0, 0⟩]⟩)
noncomputable def FinE (w : World) : Prop := (fun os => topRun treeTable PySem.Challenge.pw_ta0049_01 w 28 (some (.ref 6)) 3 (SharedT.abs ⟨tree32 w.params, 235, {}, ⟨[]⟩, {}, 2580, os⟩) ⟨doneF .next, .body (behindTheImports PySem.Challenge.pw_ta0049_01) myTop.env_1, ⟨144, 0, 183, 103⟩, [topFrame ⟨0, 0, 0, 0⟩]⟩) = fun os => some ⟨H1E w.params, ⟨[]⟩, {}, 2580, os⟩
noncomputable def SizeE (w : World) : Prop := ((H0E w.params).isNs mainGlobals && (#[] : Array GenState).size == 0, (H0E w.params).objs.size, (H0E w.params).nsMap mainGlobals "__annotations__") = (true, 28, some (Value.ref 6))
end
end Mine
end
section
open PySem PySem.W PyProof.Rows
set_option maxRecDepth 100000
set_option maxHeartbeats 0
namespace Mine
theorem openE (w : World) : OpenE w := by
  unfold OpenE
  rw [Fast.te10274390034422433532, Fast.te14364793385576792824, Fast.te1435165496053646825]
  kernel_rfl
theorem fenceE (w : World) : FenceE w := by
  unfold FenceE
  rw [Fast.te14289696077712309145]
  kernel_rfl
theorem preE (w : World) : PreE w := by
  unfold PreE
  rw [Fast.te15667345088766844465, Fast.te14364793385576792824, Fast.te11892475500146522536]
  kernel_rfl
theorem finE (w : World) : FinE w := by
  unfold FinE
  rw [Fast.te14082659384304107361, Fast.te14364793385576792824]
  kernel_rfl
theorem sizeE (w : World) : SizeE w := by
  unfold SizeE
  kernel_rfl
end Mine
end
section
open PySem PySem.W PyProof.Rows
set_option maxRecDepth 100000
set_option maxHeartbeats 0
namespace Mine
theorem st19_ff (w : World) : St19 ((w.withFollow "special-get-raises" false).withFollow "set-order" false) := by
  unfold St19
  rw [Fast.te10110043849684766642, Fast.te14364793385576792824, Fast.te12563942051412417395]
  kernel_rfl
end Mine
end
section
open PySem PySem.W PyProof.Rows
set_option maxRecDepth 100000
set_option maxHeartbeats 0
namespace Mine
theorem st19_ft (w : World) : St19 ((w.withFollow "special-get-raises" true).withFollow "set-order" false) := by
  unfold St19
  rw [Fast.te10110043849684766642, Fast.te14364793385576792824, Fast.te12563942051412417395]
  kernel_rfl
theorem st19_tf (w : World) : St19 ((w.withFollow "special-get-raises" false).withFollow "set-order" true) := by
  unfold St19
  rw [Fast.te10110043849684766642, Fast.te14364793385576792824, Fast.te12563942051412417395]
  kernel_rfl
theorem st19_tt (w : World) : St19 ((w.withFollow "special-get-raises" true).withFollow "set-order" true) := by
  unfold St19
  rw [Fast.te10110043849684766642, Fast.te14364793385576792824, Fast.te12563942051412417395]
  kernel_rfl
theorem st19 (w : World) : St19 w := byRow2 "set-order"
  (fun w => byRow2 "special-get-raises" (P := fun w => St19 (w.withFollow "set-order" false)) st19_ff st19_ft w)
  (fun w => byRow2 "special-get-raises" (P := fun w => St19 (w.withFollow "set-order" true)) st19_tf st19_tt w) w
theorem body_eq : behindTheImports PySem.Challenge.pw_ta0049_01 = myTop.sts_32 ++ (myTop.sts_63 ++ (sts19 ++ (sts20 ++ (stAt 22 :: (sts32 ++ []))))) := by kernel_rfl
noncomputable def runN : Nat := 12 + (1 + (382 + (285 + (999 + (30 + ((10 + (1000 + (1000 + (1000 + (1000 + (1000 + (1000 + (1000 + (1000 + (1000 + (1000 + (1000 + (1000 + (1000 + (1000 + (1000 + (1000 + (1000 + (1000 + (1000 + (1000 + (1000 + (1000 + (1000 + (1000 + (1000 + (1000 + (1000 + (1000 + (1000 + (1000 + (1000 + (1000 + (1000 + (1000 + (1000 + (1000 + (1000 + (1000 + (1000 + (400 + 3)))))))))))))))))))))))))))))))))))))))))))))))
theorem runE (w : World) (os : OsState) : topRun treeTable PySem.Challenge.pw_ta0049_01 w 28 (some (.ref 6)) runN ⟨H0E w.params, ⟨[]⟩, {}, 276, os⟩ (topStub PySem.Challenge.pw_ta0049_01) = some ⟨H1E w.params, ⟨[]⟩, {}, 2580, os⟩ := by
  refine go_top (congrFun (preE w) os) ?_
  refine piece_block (n := 1) (q := ⟨0, 0, 0, 0⟩) (s' := SharedT.abs ⟨myTop.tree_32 w.params, 32, {}, ⟨[]⟩, {}, 282, os⟩) (p' := ⟨0, 0, 0, 0⟩) (by kernel_rfl) ?_
  have k32 := piece_app (q := ⟨0, 0, 0, 0⟩) (env := myTop.env_1) (rest := []) (segRun_of (congrFun (st32 w) os)) (congrFun (finE w) os)
  have k21 := piece21 (w := w) (os := os) k32
  have k20 := piece_app (q := ⟨0, 0, 0, 0⟩) (env := myTop.env_1) (segRun_of (congrFun (st20 w) os)) k21
  have k19 := piece_app (q := ⟨0, 0, 0, 0⟩) (env := myTop.env_1) (segRun_of (congrFun (st19 w) os)) k20
  have k := piece_app (q := ⟨0, 0, 0, 0⟩) (env := myTop.env_1) (segRun_of (congrFun (sg1 w) os)) (piece_app (q := ⟨0, 0, 0, 0⟩) (env := myTop.env_1) (segRun_of (congrFun (sg2 w) os)) k19)
  rw [← body_eq] at k
  exact k
end Mine
end
section
open PySem PySem.W PyProof.Rows
set_option maxRecDepth 100000
set_option maxHeartbeats 0
namespace Mine
noncomputable section
noncomputable def viewP : Program := { PySem.Challenge.pw_ta0049_01 with main := { PySem.Challenge.pw_ta0049_01.main with body := [stAt 0, stAt 2, stAt 3, stAt 4, stAt 5, stAt 7, stAt 8, stAt 10, stAt 11, stAt 12, stAt 13, stAt 14, stAt 15, stAt 16, stAt 17, stAt 18, stAt 20, stAt 21, stAt 22, stAt 23, stAt 25, stAt 26, stAt 27, stAt 28, stAt 29, stAt 30, stAt 31, stAt 32, stAt 33] } }
noncomputable def looseL : List Str := [Str.ofString "_twin_re_1", Str.ofString "_twin_re_2", Str.ofString "COMPILER_FLAG_NAMES", Str.ofString "b1_set", Str.ofString "b3_exceptions"]
noncomputable def fragK (P : Params) : Frag := [(2, myTop.o_3 P), (3, q3_32 P), (35, myTop.o_38 P), (36, myTop.o_39 P), (40, myTop.o_43 P), (41, myTop.o_44 P), (42, myTop.o_45 P), (44, myTop.o_47 P), (45, myTop.o_48 P), (47, myTop.o_50 P), (48, myTop.o_51 P), (49, myTop.o_52 P), (50, myTop.o_53 P), (52, myTop.o_55 P), (53, myTop.o_56 P), (55, myTop.o_58 P), (56, myTop.o_59 P), (57, myTop.o_65 P), (59, myTop.o_67 P), (60, myTop.o_68 P), (62, myTop.o_70 P), (63, myTop.o_71 P), (64, myTop.o_72 P), (66, myTop.o_74 P), (67, myTop.o_75 P), (69, myTop.o_77 P), (70, myTop.o_78 P), (71, myTop.o_79 P), (73, myTop.o_81 P), (74, myTop.o_82 P), (76, myTop.o_84 P), (77, myTop.o_85 P), (78, myTop.o_86 P), (80, myTop.o_88 P), (81, myTop.o_89 P), (83, myTop.o_91 P), (84, myTop.o_92 P), (85, myTop.o_93 P), (87, myTop.o_95 P), (88, myTop.o_96 P), (90, myTop.o_98 P), (91, myTop.o_99 P), (92, myTop.o_100 P), (94, myTop.o_102 P), (95, myTop.o_103 P), (97, myTop.o_105 P), (98, myTop.o_106 P), (99, myTop.o_107 P), (101, myTop.o_109 P), (102, myTop.o_110 P), (104, myTop.o_112 P), (105, myTop.o_113 P), (106, myTop.o_114 P), (108, myTop.o_116 P), (109, myTop.o_117 P), (111, myTop.o_119 P), (112, myTop.o_120 P), (113, myTop.o_121 P), (115, myTop.o_123 P), (116, myTop.o_124 P), (118, myTop.o_126 P), (119, myTop.o_127 P), (127, q127_19 P), (131, q131_20 P), (133, q133_20 P), (134, q134_20 P), (136, q136_20 P), (137, q137_20 P), (138, m39 P), (177, q177_32 P), (179, q179_32 P), (180, q180_32 P), (182, q182_32 P), (183, q183_32 P), (184, q184_32 P), (187, q187_32 P), (188, q188_32 P), (189, q189_32 P), (192, q192_32 P), (193, q193_32 P), (194, q194_32 P), (197, q197_32 P), (198, q198_32 P), (199, q199_32 P), (201, q201_32 P), (202, q202_32 P), (204, q204_32 P), (205, q205_32 P), (206, q206_32 P), (208, q208_32 P), (209, q209_32 P), (211, q211_32 P), (212, q212_32 P), (213, q213_32 P), (216, q216_32 P), (217, q217_32 P), (218, q218_32 P), (220, q220_32 P), (221, q221_32 P), (223, q223_32 P), (224, q224_32 P), (225, q225_32 P), (228, q228_32 P), (229, q229_32 P), (230, q230_32 P), (233, q233_32 P), (234, q234_32 P)]
noncomputable def fragA : List Addr := [2, 3, 35, 36, 40, 41, 42, 44, 45, 47, 48, 49, 50, 52, 53, 55, 56, 57, 59, 60, 62, 63, 64, 66, 67, 69, 70, 71, 73, 74, 76, 77, 78, 80, 81, 83, 84, 85, 87, 88, 90, 91, 92, 94, 95, 97, 98, 99, 101, 102, 104, 105, 106, 108, 109, 111, 112, 113, 115, 116, 118, 119, 127, 131, 133, 134, 136, 137, 138, 177, 179, 180, 182, 183, 184, 187, 188, 189, 192, 193, 194, 197, 198, 199, 201, 202, 204, 205, 206, 208, 209, 211, 212, 213, 216, 217, 218, 220, 221, 223, 224, 225, 228, 229, 230, 233, 234]
theorem fragA_eq (P : Params) : fragA = (fragK P).map (·.1) := by kernel_rfl
noncomputable def XtE (s : Shared) : Bool := xlAt viewP [] s && recOk (RowW.records PySem.Challenge.rw_ta0049_01.row.toRowW) s
noncomputable abbrev hkE : Hook := kHook fragK fragA fragA_eq
noncomputable def sE (w : World) (os : OsState) : Shared := ⟨H1E w.params, ⟨[]⟩, {}, 2580, os⟩
noncomputable def mods : List Str := importedModules PySem.Challenge.pw_ta0049_01.main.body
noncomputable def Lk1 (w : World) : Prop := (fun os => (staticsOk (importedModules PySem.Challenge.pw_ta0049_01.main.body) (H0E w.params) (H1E w.params) && namesBound PySem.Challenge.pw_ta0049_01 (H1E w.params) && gensDone ⟨H1E w.params, ⟨[]⟩, {}, 2580, os⟩ && laidKept (H0E w.params) (H1E w.params))) = fun _ => true
noncomputable def Lk2 (w : World) : Prop := (fun os => openSeen viewP looseL (importedModules PySem.Challenge.pw_ta0049_01.main.body) XtE true ⟨H1E w.params, ⟨[]⟩, {}, 2580, os⟩) = fun _ => openGood viewP looseL
noncomputable def Lk3 (w : World) : Prop := (fun os => fragA.map (Shared.heap ⟨H1E w.params, ⟨[]⟩, {}, 2580, os⟩).get?) = fun _ => (fragK w.params).map fun p => some p.2
end
end Mine
end
section
open PySem PySem.W PyProof.Rows
set_option maxRecDepth 100000
set_option maxHeartbeats 0
namespace Mine
noncomputable def risesN : Nat → List (PyData × PyData) → Bool
  | _, [] => true
  | a, (.int (.ofNat j), _) :: D => match Nat.ble j a with
    | true => false
    | false => risesN j D
  | _, _ => false
theorem rises_apart : ∀ (D : List (PyData × PyData)) (a : Nat), risesN a D = true → keysApartInt D = true ∧ ∀ k : Nat, k ≤ a → hasIntKey (k : Int) D = false
  | [], a, _ => ⟨rfl, fun _ _ => rfl⟩
  | (.int (.ofNat j), v) :: D, a, h => by
    rw [risesN] at h
    cases hb : Nat.ble j a with
    | true => rw [hb] at h; cases h
    | false =>
      rw [hb] at h
      have hlt : a < j := by
        rcases Nat.lt_or_ge a j with q | q
        · exact q
        · rw [Nat.ble_eq_true_of_le q] at hb; cases hb
      obtain ⟨h1, h2⟩ := rises_apart D j h
      constructor
      · rw [keysApartInt, h1, show hasIntKey (Int.ofNat j) D = false from h2 j (Nat.le_refl _)]; rfl
      · intro k hk
        rw [hasIntKey, h2 k (by omega), Bool.or_false]
        refine beq_eq_false_iff_ne.mpr fun e => ?_
        have : j = k := Int.ofNat.inj e
        omega
  | (.int (.negSucc j), v) :: D, a, h => by cases h
  | (.none, _) :: _, _, h | (.bool _, _) :: _, _, h | (.str _, _) :: _, _, h | (.list _, _) :: _, _, h | (.tuple _, _) :: _, _, h | (.dict _, _) :: _, _, h => by cases h
noncomputable def apartQ (D : List (PyData × PyData)) : Bool := match risesN 0 D with
  | true => true
  | false => keysApartInt D
theorem apartQ_eq : keysApartInt = apartQ := by
  funext D
  unfold apartQ
  cases h : risesN 0 D with
  | true => exact (rises_apart D 0 h).1
  | false => rfl
noncomputable def tabQ : { g : Heap → Str → List (PyData × PyData) → Bool // Heap.tabIntOk = g } := ⟨_, by
  funext h x D
  unfold Heap.tabIntOk
  rw [apartQ_eq]⟩
noncomputable def tabsQ : { g : Program → Heap → Bool // tablesOk = g } := ⟨_, by
  funext p h
  unfold tablesOk
  rw [tabQ.2]⟩
noncomputable def tablesQ : Program → Heap → Bool := tabsQ.1
theorem tablesQ_eq : tablesOk = tablesQ := tabsQ.2
noncomputable section
noncomputable abbrev sh1 (w : World) (os : OsState) : Shared := ⟨H1E w.params, ⟨[]⟩, {}, 2580, os⟩
noncomputable abbrev mdsE : List Str := importedModules PySem.Challenge.pw_ta0049_01.main.body
noncomputable def Ka (w : World) : Prop := (fun os => seen ((recsOf viewP).map (·.name)) (ownsOf viewP) [] { (sh1 w os) with gens := #[] }) = fun _ => expectedOf viewP
noncomputable def Kb (w : World) : Prop := (fun os => (sh1 w os).heap.bltView) = fun _ => bltViewBooted
noncomputable def Kc (w : World) : Prop := (fun os => (((sh1 w os).heap.keysOk (looseW viewP looseL) ((recsOf viewP).map (·.name)) ((litsOf viewP).map (·.1)) ((clssOf viewP (looseW viewP looseL)).map (·.name)) && (sh1 w os).heap.accountedOkI mdsE && (sh1 w os).heap.isNs mainGlobals && (sh1 w os).heap.isNs builtinsNs))) = fun _ => true
noncomputable def Kt (w : World) : Prop := tablesQ viewP (H1E w.params) = true
noncomputable def Kx (w : World) : Prop := (fun os => XtE (sh1 w os)) = fun _ => true
noncomputable def Kd (w : World) : Prop := (fun os => tabsOk viewP (sh1 w os)) = fun _ => true
noncomputable def Ke (w : World) : Prop := (fun os => (pinSeenD viewP (drecsOf viewP) (sh1 w os), plainSeenE viewP (looseW viewP looseL) (sh1 w os), plainSeenD viewP looseL (sh1 w os), wideSeen viewP (sh1 w os), clsSeenW viewP looseL (sh1 w os))) = fun _ => (pinGoodD (drecsOf viewP), plainGoodE viewP (looseW viewP looseL), plainGoodD viewP looseL, wideGood viewP, clsGoodW viewP looseL)
end
theorem ka (w : World) : Ka w := by
  unfold Ka sh1
  rw [Fast.te5160383126252970620, Fast.te3399658132070893891, Fast.te5991557255702980513]
  kernel_rfl
theorem kb (w : World) : Kb w := by
  unfold Kb sh1
  kernel_rfl
theorem kc (w : World) : Kc w := by
  unfold Kc sh1 mdsE
  rw [Fast.te10880121769531294198, Fast.te821141287760084731, Fast.te3399658132070893891, Fast.te7409074990110511671, Fast.te13664370479719496447, Fast.te14722251495701143533, Fast.te5923862056798008813]
  kernel_rfl
theorem kt (w : World) : Kt w := by
  unfold Kt
  kernel_rfl
theorem kx (w : World) : Kx w := by
  unfold Kx sh1
  kernel_rfl
theorem kd (w : World) : Kd w := by
  unfold Kd sh1
  rw [Fast.te479339242167458305]
  kernel_rfl
theorem ke (w : World) : Ke w := by
  unfold Ke sh1
  rw [Fast.te16090120013241838585, Fast.te3247288618530077131, Fast.te2386780881361962483, Fast.te821141287760084731, Fast.te11698064438423848299, Fast.te7317090234206586261, Fast.te7369524293546568484]
  kernel_rfl
theorem lk1 (w : World) : Lk1 w := by
  unfold Lk1
  rw [Fast.te5923862056798008813]
  kernel_rfl
theorem lk3 (w : World) : Lk3 w := by
  unfold Lk3
  kernel_rfl
theorem lk2 (w : World) : Lk2 w := by
  unfold Lk2
  funext os
  have h1 := congrFun (ka w) os
  have h2 := congrFun (kb w) os
  have h3 := congrFun (kc w) os
  have h4 : tablesOk viewP (H1E w.params) = true := by rw [tablesQ_eq]; exact kt w
  have h5 := congrFun (kx w) os
  have h6 := congrFun (kd w) os
  have h7 := congrFun (ke w) os
  unfold openSeen openGood
  refine looks_pair h1 (looks_pair h2 (looks_pair ?_ (looks_pair h6 h7)))
  have h3 : (((sh1 w os).heap.keysOk (looseW viewP looseL) ((recsOf viewP).map (·.name)) ((litsOf viewP).map (·.1)) ((clssOf viewP (looseW viewP looseL)).map (·.name)) && (sh1 w os).heap.accountedOkI mdsE && (sh1 w os).heap.isNs mainGlobals && (sh1 w os).heap.isNs builtinsNs)) = true := h3
  have h5 : XtE (sh1 w os) = true := h5
  show ((((sh1 w os).heap.keysOk (looseW viewP looseL) ((recsOf viewP).map (·.name)) ((litsOf viewP).map (·.1)) ((clssOf viewP (looseW viewP looseL)).map (·.name)) && (sh1 w os).heap.accountedOkI mdsE && (sh1 w os).heap.isNs mainGlobals && (sh1 w os).heap.isNs builtinsNs)) && tablesOk viewP (H1E w.params) && XtE (sh1 w os) && true) = true
  rw [h3, h4, h5]; rfl
end Mine
end
section
open PySem PySem.W PyProof.Rows
set_option maxRecDepth 100000
set_option maxHeartbeats 0
namespace Mine
theorem open0 : ∀ w : World, (fencedOpening treeTable PySem.Challenge.pw_ta0049_01 w 100000).map (fun s => (s.heap, s.gens, s.drawn, s.toks)) = some (H0E w.params, (⟨[]⟩ : Array GenState), ({} : Drawn), 276) :=
  open_cut (M := 900) (He := HeE) (ge := ⟨[]⟩) (de := {}) (ke := 276) openE (by decide) fenceE
theorem leftE : LeftO PySem.Challenge.pw_ta0049_01 viewP looseL XtE (Hook.obs hkE) (Hook.val hkE) 100000 :=
  LeftO.of_pieces (H₀ := H0E) (H₁ := H1E) (gs₀ := ⟨[]⟩) (gs₁ := ⟨[]⟩) (d₀ := {}) (d₁ := {}) (k₀ := 276) (k₁ := 2580) (m₀ := 28) (ann := some (.ref 6)) (M := runN) open0 sizeE runE (by kernel_rfl) fun w => by
    funext os
    have h1 := congrFun (lk1 w) os
    have h2 := congrFun (lk2 w) os
    have h3 := congrFun (lk3 w) os
    exact looks_pair h1 (looks_pair h2 h3)
end Mine
end
section
open PySem PySem.W PyProof.Rows
set_option maxRecDepth 100000
set_option maxHeartbeats 4000000
namespace Mine
noncomputable def dRec : DefRec := ⟨dLaw.name, dLaw.params, dLaw.body, dLaw.scope, ⟨144, 0, 183, 103⟩⟩
theorem def_law : defOf viewP PySem.Challenge.rw_ta0049_01.row.name = some (dRec, []) := by kernel_rfl
theorem row_holds (said : PySem.Challenge.rw_ta0049_01.row.wellSaid = true) (call : WalkO viewP looseL (XL viewP []) (Hook.says hkE) PySem.Challenge.rw_ta0049_01.row.toRowW dRec [] fun f vs => PySem.call f vs) : PySem.Challenge.rw_ta0049_01.row.Holds := by
  refine holds_open (q := viewP) (loose := looseL) (Xt := XtE) (XP := XL viewP []) (Yf := Hook.obs hkE) (Ya := Hook.val hkE) (YP := Hook.says hkE) (N := 100000) leftE (Hook.of hkE) (Hook.keeps hkE) (fun s e => xl_of s (Bool.and_eq_true_iff.mp e).1) XL.keeps def_law (by kernel_rfl) (by kernel_rfl) (fun s e => recFacts_of (Bool.and_eq_true_iff.mp e).2) (by rfl) said (by decide +kernel) ⟨rfl, rfl, rfl, rfl, rfl, by decide +kernel⟩ ?hw call
  w_witness2
end Mine
end
section
open PySem PySem.W PySem.Calls PyProof.Rows PySem.Spec
set_option maxRecDepth 100000
namespace Mine
section
variable {M : Model} {A : Around} {E : Value → Shared → Prop} {s : Shared}
theorem newEnv_one (scope : Scope) (globals : Addr) (x : Str) (v : Value) (qual : Str) (func : Option Addr) (code : Value) (builtins : Addr) :
    newFunctionEnv scope globals [] [(x, v)] qual func code none builtins =
      (newFunctionEnv scope globals [] [] qual func code none builtins >>= fun env => storeName env x v >>= fun _ => pure env) := by
  simp [newFunctionEnv]
theorem newEnv1 {scope : Scope} {globals : Addr} {x : Str} {v : Value} {qual : Str} {func : Option Addr} {code : Value} {builtins : Addr} {Q : Env → Shared → Prop}
    (hk : scope.kind = .function) (hl : scope.names.lookup x = some .local)
    (hQ : ∀ env, env = newEnv scope s.heap.objs.size globals (cellsFrom (s.heap.objs.size + 1) scope.names []) qual func code none builtins →
      ∀ s', 0 < s'.toks → InCallC s env.locals (fun y => if y = x then some v else none) env.cells (fun _ => none) s' → Q env s') :
    wpAny M A (newFunctionEnv scope globals [] [(x, v)] qual func code none builtins) Q E s := by
  rw [newEnv_one]
  refine wpAny_bind (wpAny_newFunctionEnv_cells hk (fun _ h => nomatch h) fun env he s₁ X => ?_)
  have loc : env.kindOf x = some .local := by subst he; exact hl
  have fn : env.scope.kind = .function := by subst he; exact hk
  obtain ⟨⟨same, ns, kept, fresh⟩, cell, apart, above⟩ := X
  refine wpAny_bind (wpAny_storeName_local loc ns (fun h₂ ns₂ but => wpAny_pure (hQ env he _ (Nat.succ_pos _) ?_)) (by rw [fn]; rfl))
  obtain ⟨_, _, rfl⟩ := same
  have low : ∀ b o, s.heap.get? b = some o → b ≠ env.locals := fun b o e q => absurd fresh (Nat.not_le.mpr (q ▸ Heap.lt_size e))
  have high : ∀ n a, env.cells.lookup n = some a → a ≠ env.locals := fun n a e q => Nat.lt_irrefl _ (q ▸ above n a (mem_of_lookup e))
  exact ⟨⟨⟨_, _, rfl⟩, ns₂, fun b o e => but.extBut b o (low b o e) (kept b o e), fresh⟩, fun n a e => (cell n a e).sameBut but (high n a e), apart, above⟩
end
theorem law_call {prog : Program} {w : World} {A : Around} {E : Value → Shared → Prop} {s : Shared} {l : List Int} {cs : List Nat} {c4 : Nat} {ts W : List Nat} (H : LawFacts l cs c4 ts W) {fa D : Addr} {vs : List Value} {n : Nat} {fo : Obj} {doc pm cdv ct : Value} {an : Option Addr}
    (room : Room 3 A) (gb : GB topI s.heap) (ho : s.heap.get? fa = some fo) (hdt : fo.data = .func (fnX dLaw.name dLaw.name dLaw.params dLaw.body dLaw.scope [] .none .none doc pm an cdv ct)) (hcd : s.heap.CodeRec cdv dLaw.name)
    (hfa : fa = dLaw.addr)
    (hD : s.heap.get? D = some (listObj vs n)) (hI : Paired (IR 0) vs (l.map IV.int)) :
    wpAny (model prog w) A (call (.ref fa) [.ref D]) (fun v s' => v = .bool true ∧ Kp s.heap s'.heap ∧ s'.gens = s.gens ∧ s'.os = s.os) E s := by with_unfolding_all
  subst hfa
  refine wpAny_call ?_
  refine codeAny_call_function (fd := fnX dLaw.name dLaw.name dLaw.params dLaw.body dLaw.scope [] .none .none doc pm an cdv ct) (body := dLaw.body) (by have h1 : A.depth + 3 < recursionLimit := room.depth; show A.depth < recursionLimit; omega) ho hdt okLaw.co okLaw.gen rfl hcd ?_
  rw [okLaw.bind [.ref D] rfl]
  refine wpAny_pure ?_
  refine newEnv1 (x := "script") (v := .ref D) okLaw.kind rfl fun env' he s' htk x => ?_
  subst he
  obtain ⟨h₁, tk, rfl, keep⟩ := x.done
  have htk : 0 < tk := htk
  refine ⟨gb.nolim.keeps keep, codeAny_func ?_⟩
  show wpAny (model prog w) (A.deeper (envC dLaw s.heap.objs.size cdv)) (execs dLaw.body (envC dLaw s.heap.objs.size cdv)) _ _ _
  have eok : EnvOK (envC dLaw s.heap.objs.size cdv) := ⟨okLaw.kind, rfl, rfl⟩
  let F : PM := ⟨fun a => if a = D then some (listObj vs n) else none, 0⟩
  have subF : ∀ b o, F.f b = some o → s.heap.get? b = some o := fun b o e => by
    have e : (if b = D then some (listObj vs n) else none) = some o := e
    by_cases z : b = D
    · subst z; rw [if_pos rfl] at e; cases e; exact hD
    · rw [if_neg z] at e; cases e
  have fresh : ∀ cc, s.heap.objs.size ≤ cc → s.heap.get? cc = none := fun cc hcc => by
    cases e : s.heap.get? cc with
    | none => rfl
    | some o => exact absurd (Heap.lt_size e) (Nat.not_lt.mpr hcc)
  have freshF : ∀ cc, s.heap.objs.size ≤ cc → F.f cc = none := fun cc hcc => by
    cases e : F.f cc with
    | none => rfl
    | some o => have := subF _ _ e; rw [show s.heap.get? cc = none from fresh cc hcc] at this; cases this
  obtain ⟨ρ', ow', hb⟩ := law_run (prog := prog) (w := w) H (A.deeper (envC dLaw s.heap.objs.size cdv)) s.heap.objs.size cdv 1 eok
  have I₀ : Inv ⟨prog, w, A.deeper (envC dLaw s.heap.objs.size cdv), envC dLaw s.heap.objs.size cdv, 2, topI, 1⟩ ⟨s.heap, s.heap.get?, F⟩ F [("script", .ints l)] .none { s with heap := h₁, toks := tk } := by
    refine ⟨room.deeper, gb, fun _ _ e => e, keep, fun b o e => keep _ _ (subF _ _ e), LeF.refl _, fun _ _ e => .inl e, Nat.zero_le _, by show 1 ≤ tk; omega, Nat.one_pos, ⟨fresh _ (Nat.le_refl _), freshF _ (Nat.le_refl _), fun n cc e => ?_, fun n n' cc e e' => ?_⟩, ?_⟩
    · have := x.above n cc (mem_of_lookup e)
      exact ⟨fresh _ (Nat.le_of_lt this), freshF _ (Nat.le_of_lt this), _, x.cell n cc e⟩
    · exact name_of_addr x.apart (mem_of_lookup e) (mem_of_lookup e')
    · refine ⟨_, x.toInCall.ns, fun y q e => ?_, trivial⟩
      by_cases z : y = "script"
      · subst z
        have e : some (PV.ints l) = some q := e
        cases e
        refine ⟨.ref D, .inl ⟨rfl, ?_⟩, .list (a := D) (vs := vs) (n := n) ?_ hI⟩
        · rfl
        · show (if D = D then some (listObj vs n) else none) = _
          rw [if_pos rfl]
      · have z' : (y == (Str.ofString "script")) = false := beq_eq_false_iff_ne.mpr z
        have e : List.lookup y [(Str.ofString "script", PV.ints l)] = some q := e
        rw [List.lookup_cons, z'] at e
        cases e
  refine hb _ F _ I₀ _ _ fun f F₂ h₂ tk₂ l₂ I₂ r₂ => ?_
  cases r₂ with
  | ret rv =>
    cases rv with
    | imm h => cases h with
      | bool b => exact ⟨rfl, I₂.keep, rfl, rfl⟩
end Mine
end
section
open PySem PySem.W PySem.Calls PyProof.Rows
set_option maxRecDepth 100000
set_option maxHeartbeats 4000000
namespace Mine
noncomputable def fdOf (o : Obj) : FuncData := match o.data with
  | .func f => f
  | _ => ⟨⟨#[]⟩, ⟨#[]⟩, ⟨[], [], none, [], [], none, []⟩, .stmts [], PySem.Challenge.pw_ta0049_01.main.scope, 0, [], .none, .none, .none, .none, none, .none, .none, 0⟩
noncomputable def fnLook (K : Frag) (d : FnRec) : Bool := match K.lookup d.addr with
  | some o => (match o.data with
    | .func f => (match f.code with
      | .ref cd => (match K.lookup cd with
        | some oc => (match oc.data with
          | .fields vs => (match (vs[1]? : Option Value) with
            | some (.str q _) => decide (q = d.name)
            | _ => false)
          | _ => false)
        | none => false)
      | _ => false)
    | _ => false)
  | none => false
theorem fnAt_of {K : Frag} {h : Heap} (x : K.In h) {d : FnRec} {fo : Obj} {doc pm cdv ct : Value} {an : Option Addr} (e : K.lookup d.addr = some fo) (e2 : fo.data = .func (fnX d.name d.name d.params d.body d.scope [] .none .none doc pm an cdv ct)) (e3 : fnLook K d = true) : FnAt h d := by
  refine ⟨fo, doc, pm, an, cdv, ct, x _ _ e, e2, ?_⟩
  unfold fnLook at e3
  rw [e] at e3
  simp only [e2] at e3
  cases cdv with
  | ref cd =>
    simp only at e3
    cases hl : K.lookup cd with
    | none => rw [hl] at e3; cases e3
    | some oc =>
      rw [hl] at e3
      simp only at e3
      cases hd : oc.data with
      | fields vs =>
        rw [hd] at e3
        simp only at e3
        split at e3
        · rename_i q t hq
          have := of_decide_eq_true e3
          subst this
          exact ⟨cd, oc, vs, t, rfl, x _ _ hl, hd, hq⟩
        · cases e3
      | _ => rw [hd] at e3; cases e3
  | _ => cases e3
theorem fa_dQuote {P : Params} {h : Heap} (x : (fragK P).In h) : FnAt h dQuote := fnAt_of x (fo := myTop.o_51 P) (doc := (fdOf (myTop.o_51 P)).doc) (pm := (fdOf (myTop.o_51 P)).pyModule) (an := (fdOf (myTop.o_51 P)).annotations) (cdv := (fdOf (myTop.o_51 P)).code) (ct := (fdOf (myTop.o_51 P)).closureTuple) (by kernel_rfl) (by kernel_rfl) (by kernel_rfl)
theorem fa_dFlags {P : Params} {h : Heap} (x : (fragK P).In h) : FnAt h dFlags := fnAt_of x (fo := myTop.o_59 P) (doc := (fdOf (myTop.o_59 P)).doc) (pm := (fdOf (myTop.o_59 P)).pyModule) (an := (fdOf (myTop.o_59 P)).annotations) (cdv := (fdOf (myTop.o_59 P)).code) (ct := (fdOf (myTop.o_59 P)).closureTuple) (by kernel_rfl) (by kernel_rfl) (by kernel_rfl)
theorem fa_dLe {P : Params} {h : Heap} (x : (fragK P).In h) : FnAt h dLe := fnAt_of x (fo := myTop.o_71 P) (doc := (fdOf (myTop.o_71 P)).doc) (pm := (fdOf (myTop.o_71 P)).pyModule) (an := (fdOf (myTop.o_71 P)).annotations) (cdv := (fdOf (myTop.o_71 P)).code) (ct := (fdOf (myTop.o_71 P)).closureTuple) (by kernel_rfl) (by kernel_rfl) (by kernel_rfl)
theorem fa_dEq {P : Params} {h : Heap} (x : (fragK P).In h) : FnAt h dEq := fnAt_of x (fo := myTop.o_78 P) (doc := (fdOf (myTop.o_78 P)).doc) (pm := (fdOf (myTop.o_78 P)).pyModule) (an := (fdOf (myTop.o_78 P)).annotations) (cdv := (fdOf (myTop.o_78 P)).code) (ct := (fdOf (myTop.o_78 P)).closureTuple) (by kernel_rfl) (by kernel_rfl) (by kernel_rfl)
theorem fa_dGt {P : Params} {h : Heap} (x : (fragK P).In h) : FnAt h dGt := fnAt_of x (fo := myTop.o_85 P) (doc := (fdOf (myTop.o_85 P)).doc) (pm := (fdOf (myTop.o_85 P)).pyModule) (an := (fdOf (myTop.o_85 P)).annotations) (cdv := (fdOf (myTop.o_85 P)).code) (ct := (fdOf (myTop.o_85 P)).closureTuple) (by kernel_rfl) (by kernel_rfl) (by kernel_rfl)
theorem fa_dAdd {P : Params} {h : Heap} (x : (fragK P).In h) : FnAt h dAdd := fnAt_of x (fo := myTop.o_92 P) (doc := (fdOf (myTop.o_92 P)).doc) (pm := (fdOf (myTop.o_92 P)).pyModule) (an := (fdOf (myTop.o_92 P)).annotations) (cdv := (fdOf (myTop.o_92 P)).code) (ct := (fdOf (myTop.o_92 P)).closureTuple) (by kernel_rfl) (by kernel_rfl) (by kernel_rfl)
theorem fa_dShl {P : Params} {h : Heap} (x : (fragK P).In h) : FnAt h dShl := fnAt_of x (fo := myTop.o_99 P) (doc := (fdOf (myTop.o_99 P)).doc) (pm := (fdOf (myTop.o_99 P)).pyModule) (an := (fdOf (myTop.o_99 P)).annotations) (cdv := (fdOf (myTop.o_99 P)).code) (ct := (fdOf (myTop.o_99 P)).closureTuple) (by kernel_rfl) (by kernel_rfl) (by kernel_rfl)
theorem fa_dOr {P : Params} {h : Heap} (x : (fragK P).In h) : FnAt h dOr := fnAt_of x (fo := myTop.o_106 P) (doc := (fdOf (myTop.o_106 P)).doc) (pm := (fdOf (myTop.o_106 P)).pyModule) (an := (fdOf (myTop.o_106 P)).annotations) (cdv := (fdOf (myTop.o_106 P)).code) (ct := (fdOf (myTop.o_106 P)).closureTuple) (by kernel_rfl) (by kernel_rfl) (by kernel_rfl)
theorem fa_dConcat {P : Params} {h : Heap} (x : (fragK P).In h) : FnAt h dConcat := fnAt_of x (fo := myTop.o_113 P) (doc := (fdOf (myTop.o_113 P)).doc) (pm := (fdOf (myTop.o_113 P)).pyModule) (an := (fdOf (myTop.o_113 P)).annotations) (cdv := (fdOf (myTop.o_113 P)).code) (ct := (fdOf (myTop.o_113 P)).closureTuple) (by kernel_rfl) (by kernel_rfl) (by kernel_rfl)
theorem fa_dCount {P : Params} {h : Heap} (x : (fragK P).In h) : FnAt h dCount := fnAt_of x (fo := myTop.o_120 P) (doc := (fdOf (myTop.o_120 P)).doc) (pm := (fdOf (myTop.o_120 P)).pyModule) (an := (fdOf (myTop.o_120 P)).annotations) (cdv := (fdOf (myTop.o_120 P)).code) (ct := (fdOf (myTop.o_120 P)).closureTuple) (by kernel_rfl) (by kernel_rfl) (by kernel_rfl)
theorem fa_dIndex {P : Params} {h : Heap} (x : (fragK P).In h) : FnAt h dIndex := fnAt_of x (fo := myTop.o_127 P) (doc := (fdOf (myTop.o_127 P)).doc) (pm := (fdOf (myTop.o_127 P)).pyModule) (an := (fdOf (myTop.o_127 P)).annotations) (cdv := (fdOf (myTop.o_127 P)).code) (ct := (fdOf (myTop.o_127 P)).closureTuple) (by kernel_rfl) (by kernel_rfl) (by kernel_rfl)
theorem fa_dB1 {P : Params} {h : Heap} (x : (fragK P).In h) : FnAt h dB1 := fnAt_of x (fo := q137_20 P) (doc := (fdOf (q137_20 P)).doc) (pm := (fdOf (q137_20 P)).pyModule) (an := (fdOf (q137_20 P)).annotations) (cdv := (fdOf (q137_20 P)).code) (ct := (fdOf (q137_20 P)).closureTuple) (by kernel_rfl) (by kernel_rfl) (by kernel_rfl)
theorem fa_dB3 {P : Params} {h : Heap} (x : (fragK P).In h) : FnAt h dB3 := fnAt_of x (fo := q183_32 P) (doc := (fdOf (q183_32 P)).doc) (pm := (fdOf (q183_32 P)).pyModule) (an := (fdOf (q183_32 P)).annotations) (cdv := (fdOf (q183_32 P)).code) (ct := (fdOf (q183_32 P)).closureTuple) (by kernel_rfl) (by kernel_rfl) (by kernel_rfl)
theorem fa_dCells {P : Params} {h : Heap} (x : (fragK P).In h) : FnAt h dCells := fnAt_of x (fo := q188_32 P) (doc := (fdOf (q188_32 P)).doc) (pm := (fdOf (q188_32 P)).pyModule) (an := (fdOf (q188_32 P)).annotations) (cdv := (fdOf (q188_32 P)).code) (ct := (fdOf (q188_32 P)).closureTuple) (by kernel_rfl) (by kernel_rfl) (by kernel_rfl)
theorem fa_dHidden {P : Params} {h : Heap} (x : (fragK P).In h) : FnAt h dHidden := fnAt_of x (fo := q193_32 P) (doc := (fdOf (q193_32 P)).doc) (pm := (fdOf (q193_32 P)).pyModule) (an := (fdOf (q193_32 P)).annotations) (cdv := (fdOf (q193_32 P)).code) (ct := (fdOf (q193_32 P)).closureTuple) (by kernel_rfl) (by kernel_rfl) (by kernel_rfl)
theorem fa_dNames {P : Params} {h : Heap} (x : (fragK P).In h) : FnAt h dNames := fnAt_of x (fo := q198_32 P) (doc := (fdOf (q198_32 P)).doc) (pm := (fdOf (q198_32 P)).pyModule) (an := (fdOf (q198_32 P)).annotations) (cdv := (fdOf (q198_32 P)).code) (ct := (fdOf (q198_32 P)).closureTuple) (by kernel_rfl) (by kernel_rfl) (by kernel_rfl)
theorem fa_dTyped {P : Params} {h : Heap} (x : (fragK P).In h) : FnAt h dTyped := fnAt_of x (fo := q205_32 P) (doc := (fdOf (q205_32 P)).doc) (pm := (fdOf (q205_32 P)).pyModule) (an := (fdOf (q205_32 P)).annotations) (cdv := (fdOf (q205_32 P)).code) (ct := (fdOf (q205_32 P)).closureTuple) (by kernel_rfl) (by kernel_rfl) (by kernel_rfl)
theorem fa_dMoved {P : Params} {h : Heap} (x : (fragK P).In h) : FnAt h dMoved := fnAt_of x (fo := q212_32 P) (doc := (fdOf (q212_32 P)).doc) (pm := (fdOf (q212_32 P)).pyModule) (an := (fdOf (q212_32 P)).annotations) (cdv := (fdOf (q212_32 P)).code) (ct := (fdOf (q212_32 P)).closureTuple) (by kernel_rfl) (by kernel_rfl) (by kernel_rfl)
theorem fa_dSent {P : Params} {h : Heap} (x : (fragK P).In h) : FnAt h dSent := fnAt_of x (fo := q217_32 P) (doc := (fdOf (q217_32 P)).doc) (pm := (fdOf (q217_32 P)).pyModule) (an := (fdOf (q217_32 P)).annotations) (cdv := (fdOf (q217_32 P)).code) (ct := (fdOf (q217_32 P)).closureTuple) (by kernel_rfl) (by kernel_rfl) (by kernel_rfl)
theorem fa_dTold {P : Params} {h : Heap} (x : (fragK P).In h) : FnAt h dTold := fnAt_of x (fo := q224_32 P) (doc := (fdOf (q224_32 P)).doc) (pm := (fdOf (q224_32 P)).pyModule) (an := (fdOf (q224_32 P)).annotations) (cdv := (fdOf (q224_32 P)).code) (ct := (fdOf (q224_32 P)).closureTuple) (by kernel_rfl) (by kernel_rfl) (by kernel_rfl)
theorem fa_dBack {P : Params} {h : Heap} (x : (fragK P).In h) : FnAt h dBack := fnAt_of x (fo := q229_32 P) (doc := (fdOf (q229_32 P)).doc) (pm := (fdOf (q229_32 P)).pyModule) (an := (fdOf (q229_32 P)).annotations) (cdv := (fdOf (q229_32 P)).code) (ct := (fdOf (q229_32 P)).closureTuple) (by kernel_rfl) (by kernel_rfl) (by kernel_rfl)
theorem fnsAt {P : Params} {h : Heap} (x : (fragK P).In h) : ∀ d ∈ topI.fns, FnAt h d := by
  intro d hd
  have hd : d ∈ [dQuote, dFlags, dLe, dEq, dGt, dAdd, dShl, dOr, dConcat, dCount, dIndex, dB1, dB3, dCells, dHidden, dNames, dTyped, dMoved, dSent, dTold, dBack] := hd
  simp only [List.mem_cons, List.not_mem_nil, or_false] at hd
  rcases hd with rfl | rfl | rfl | rfl | rfl | rfl | rfl | rfl | rfl | rfl | rfl | rfl | rfl | rfl | rfl | rfl | rfl | rfl | rfl | rfl | rfl
  · exact fa_dQuote x
  · exact fa_dFlags x
  · exact fa_dLe x
  · exact fa_dEq x
  · exact fa_dGt x
  · exact fa_dAdd x
  · exact fa_dShl x
  · exact fa_dOr x
  · exact fa_dConcat x
  · exact fa_dCount x
  · exact fa_dIndex x
  · exact fa_dB1 x
  · exact fa_dB3 x
  · exact fa_dCells x
  · exact fa_dHidden x
  · exact fa_dNames x
  · exact fa_dTyped x
  · exact fa_dMoved x
  · exact fa_dSent x
  · exact fa_dTold x
  · exact fa_dBack x
theorem nsAt {P : Params} {h : Heap} (x : (fragK P).In h) : h.isNs mainGlobals = true ∧ ∀ y, h.nsMap mainGlobals y = (match (q3_32 P).data with | .dict es _ => nsFind es y | _ => none) := by
  have e : h.get? mainGlobals = some (q3_32 P) := x mainGlobals (q3_32 P) (by kernel_rfl)
  constructor
  · unfold Heap.isNs
    rw [e]
    kernel_rfl
  · intro y
    unfold Heap.nsMap
    rw [e]
    rfl
theorem globsAt (P : Params) : (topI.glob.all fun p => decide ((match (q3_32 P).data with | .dict es _ => nsFind es p.1 | _ => none) = p.2)) = true := by kernel_rfl
theorem bltsAt : (topI.blt.all fun p => decide (p.1 ≠ Str.ofString "__name__") && decide (bootBuiltins p.1 = some p.2)) = true := by kernel_rfl
theorem crlfAt (P : Params) : ∃ t, (match (q3_32 P).data with | .dict es _ => nsFind es (Str.ofString "CRLF") | _ => none) = some (.str ⟨#[13, 10]⟩ t) := ⟨342, by kernel_rfl⟩
end Mine
end
section
open PySem PySem.W PySem.Calls PyProof.Rows
set_option maxRecDepth 100000
set_option maxHeartbeats 4000000
namespace Mine
theorem tab1 (P : Params) : KTD.keyedLook (fun b => (fragK P).lookup b) 49 (flagT.map fun q => (q.1, PyData.str q.2)) = true := by kernel_rfl
theorem tab2 (P : Params) : KTD.keyedLook (fun b => (fragK P).lookup b) 138 (b3T.map fun q => (q.1, PyData.str q.2)) = true := by
  unfold KTD.keyedLook
  have e : ((b3T.map fun q => (q.1, PyData.str q.2)).map (·.1)) = b3T.map (·.1) := by rw [List.map_map]; rfl
  rw [e, decide_eq_true (risesI_nodup _ _ b3_rises).1, Bool.and_true]
  kernel_rfl
end Mine
end
section
open PySem PySem.W PySem.Calls PyProof.Rows
set_option maxRecDepth 100000
set_option maxHeartbeats 4000000
namespace Mine
noncomputable def setEs (o : Obj) : List (Int × Value) := match o.data with
  | .set es _ _ => es.toList
  | _ => []
noncomputable def setEp (o : Obj) : Nat := match o.data with
  | .set _ n _ => n
  | _ => 0
noncomputable def setTb (o : Obj) : SetTable := match o.data with
  | .set _ _ t => t
  | _ => .fresh 0 0 false
noncomputable def fldsO (o : Obj) : Array Value := match o.data with
  | .fields vs => vs
  | _ => #[]
noncomputable def seqO (o : Obj) : Array Value := match o.data with
  | .seq vs _ => vs
  | _ => #[]
noncomputable def seqN (o : Obj) : Nat := match o.data with
  | .seq _ n => n
  | _ => 0
noncomputable def elLook (es : List (Int × Value)) : Bool := es.all fun e => match e.2 with
  | .int k t => decide (e.1 = hashInt k) && (Value.int k t).scannable
  | _ => false
noncomputable def valLook (es : List (Int × Value)) (l : List Int) : Bool := (es.all fun e => match e.2 with
  | .int k _ => decide (k ∈ l)
  | _ => false) && l.all fun k => es.any fun e => Value.isInt k e.2
theorem setOf_look {o : Obj} {l : List Int} {n : Nat} {es : Array (Int × Value)} {ep : Nat} {t : SetTable} (hx : o.ExactSet) (hd : o.data = .set es ep t) (h1 : elLook es.toList = true) (h2 : valLook es.toList l = true) (h3 : es.size = n) (h4 : t.fits es.size = true) : o.IntSetOf (fun i => decide (i ∈ l)) n := by
  intro prog w
  refine ⟨hx, es, ep, t, hd, fun e he => ?_, fun k => ?_, h3, h4⟩
  · have := List.all_eq_true.mp h1 e he
    cases hv : e.2 with
    | int k u =>
      rw [hv] at this
      simp only [Bool.and_eq_true] at this
      exact ⟨⟨k, by rw [intKind_is], of_decide_eq_true this.1⟩, this.2⟩
    | _ => rw [hv] at this; cases this
  · obtain ⟨a, b⟩ := Bool.and_eq_true_iff.mp h2
    constructor
    · intro hk
      have hk := of_decide_eq_true hk
      obtain ⟨e, he, hi⟩ := List.any_eq_true.mp (List.all_eq_true.mp b k hk)
      exact ⟨e, he, hi⟩
    · rintro ⟨e, he, hi⟩
      have := List.all_eq_true.mp a e he
      obtain ⟨u, hu⟩ := Value.isInt_shape hi
      rw [hu] at this
      exact this
theorem setAt (P : Params) : (q127_19 P).IntSetOf (fun i => decide (i ∈ b1L)) 27 :=
  setOf_look (es := (setEs (q127_19 P)).toArray) (ep := setEp (q127_19 P)) (t := setTb (q127_19 P)) ⟨by kernel_rfl, by kernel_rfl, by kernel_rfl⟩ (by kernel_rfl) (by kernel_rfl) (by kernel_rfl) (by kernel_rfl) (by kernel_rfl)
theorem patAt1 {P : Params} {h : Heap} (x : (fragK P).In h) : PatAt h 36 code1 :=
  ⟨myTop.o_39 P, fldsO (myTop.o_39 P), 35, myTop.o_38 P, seqO (myTop.o_38 P), seqN (myTop.o_38 P), x 36 _ (by kernel_rfl), by kernel_rfl, by kernel_rfl, by kernel_rfl, by kernel_rfl, by kernel_rfl, by kernel_rfl, x 35 _ (by kernel_rfl), by kernel_rfl, by kernel_rfl⟩
theorem patAt2 {P : Params} {h : Heap} (x : (fragK P).In h) : PatAt h 41 code2 :=
  ⟨myTop.o_44 P, fldsO (myTop.o_44 P), 40, myTop.o_43 P, seqO (myTop.o_43 P), seqN (myTop.o_43 P), x 41 _ (by kernel_rfl), by kernel_rfl, by kernel_rfl, by kernel_rfl, by kernel_rfl, by kernel_rfl, by kernel_rfl, x 40 _ (by kernel_rfl), by kernel_rfl, by kernel_rfl⟩
theorem nbAt {P : Params} {h : Heap} (x : (fragK P).In h) : NoneBooked h := by
  have e : h.get? cStatics = some (myTop.o_3 P) := x cStatics (myTop.o_3 P) (by kernel_rfl)
  refine ⟨h.nsMap cStatics, .of_isNs ?_, ?_⟩
  · unfold Heap.isNs
    rw [e]
    kernel_rfl
  · unfold Heap.nsMap
    rw [e]
    kernel_rfl
theorem gb_of {P : Params} {h : Heap} {q : Program} {loose : List Str} {mean : ExcName → Option Value} {mg mb : Str → Option Value} (T : Top q loose mean mg mb h) (x : (fragK P).In h) : GB topI h := by
  obtain ⟨n1, n2⟩ := nsAt x
  refine ⟨T.nolimit, ⟨h.nsMap mainGlobals, .of_isNs n1, fun p hp => ?_⟩, ⟨mb, T.b, fun p hp => ?_⟩, fnsAt x, (fun _ h => nomatch h), nbAt x, fun p hp => ?_, fun p hp => ?_, ⟨h.nsMap mainGlobals, .of_isNs n1, fun p hp => ?_⟩, fun p hp => ?_⟩
  · rw [n2]
    exact of_decide_eq_true (List.all_eq_true.mp (globsAt P) p hp)
  · have := List.all_eq_true.mp bltsAt p hp
    rw [Bool.and_eq_true] at this
    rw [T.builtins p.1 (of_decide_eq_true this.1)]
    exact of_decide_eq_true this.2
  · have hp : p ∈ [((49 : Addr), flagT), (138, b3T)] := hp
    simp only [List.mem_cons, List.not_mem_nil, or_false] at hp
    rcases hp with rfl | rfl
    · exact kt_keyed_in x (tab1 P)
    · exact kt_keyed_in x (tab2 P)
  · have hp : p ∈ [((127 : Addr), (fun i : Int => decide (i ∈ b1L)), 27)] := hp
    simp only [List.mem_cons, List.not_mem_nil, or_false] at hp
    subst hp
    exact ⟨q127_19 P, x 127 _ (by kernel_rfl), setAt P, by decide⟩
  · have hp : p ∈ [((Str.ofString "CRLF"), (⟨#[13, 10]⟩ : Str))] := hp
    simp only [List.mem_cons, List.not_mem_nil, or_false] at hp
    subst hp
    obtain ⟨t, ht⟩ := crlfAt P
    exact ⟨t, by rw [n2]; exact ht⟩
  · have hp : p ∈ [((36 : Addr), code1), (41, code2)] := hp
    simp only [List.mem_cons, List.not_mem_nil, or_false] at hp
    rcases hp with rfl | rfl
    · exact patAt1 x
    · exact patAt2 x
end Mine
end
section
open PySem PySem.W PySem.Calls PyProof.Rows
set_option maxRecDepth 100000
set_option maxHeartbeats 4000000
namespace Mine
theorem fa_dLaw {P : Params} {h : Heap} (x : (fragK P).In h) : FnAt h dLaw := fnAt_of x (fo := q234_32 P) (doc := (fdOf (q234_32 P)).doc) (pm := (fdOf (q234_32 P)).pyModule) (an := (fdOf (q234_32 P)).annotations) (cdv := (fdOf (q234_32 P)).code) (ct := (fdOf (q234_32 P)).closureTuple) (by kernel_rfl) (by kernel_rfl) (by kernel_rfl)
theorem ns_same {h : Heap} {a : Addr} {m m' : Str → Option Value} (x : h.Ns a m) (y : h.Ns a m') (n : Str) : m n = m' n := by
  obtain ⟨o, es, ep, h1, h2, _, h3⟩ := x
  obtain ⟨o', es', ep', g1, g2, _, g3⟩ := y
  rw [h1] at g1; cases g1
  rw [h2] at g2; cases g2
  rw [← h3, ← g3]
theorem lawAddr (P : Params) : (match (q3_32 P).data with | .dict es _ => nsFind es dRec.name | _ => none) = some (.ref 234) := by kernel_rfl
theorem well_ints {P : Params} {h : Heap} : ∀ {vs : List Value} {l : List Int}, WellAll P h vs (ofPys (l.map PyData.int)) → Paired (IR 0) vs (l.map IV.int)
  | _, [], x => by cases x; exact .nil
  | _, i :: l, x => by
    cases x with
    | cons a b =>
      cases a with
      | int _ t => exact .cons (.int i t) (well_ints b)
theorem law_walk (facts : ∀ l : List Int, l.length ≤ 63 → ∃ cs c4 ts W, LawFacts l cs c4 ts W) {w : World} {s₁ : Shared} {mg mb : Str → Option Value} {loose : List Str} {mean : ExcName → Option Value} (T : Top viewP loose mean mg mb s₁.heap) (KX : (fragK w.params).In s₁.heap) {fa D : Addr} (hmg : mg dRec.name = some (.ref fa)) (hg : s₁.gens = #[])
    {l : List Int} (hw : Well w.params s₁.heap (.ref D) (ofPy (.list (l.map PyData.int)))) (hlen : l.length ≤ 63) (E : Value → Shared → Prop) :
    wpAny (model PySem.Challenge.pw_ta0049_01 w) callerA (call (.ref fa) [.ref D]) (fun v s' => v = .bool true ∧ Kp s₁.heap s'.heap ∧ s'.gens = s₁.gens ∧ s'.os = s₁.os) E s₁ := by
  obtain ⟨cs, c4, ts, W, H⟩ := facts l hlen
  obtain ⟨n1, n2⟩ := nsAt KX
  have e1 := ns_same T.g (.of_isNs n1) dRec.name
  rw [hmg, n2] at e1
  have e2 : some (Value.ref fa) = some (.ref 234) := e1.trans (lawAddr w.params)
  obtain rfl : fa = 234 := by cases e2; rfl
  obtain ⟨fo, doc, pm, an, cdv, ct, f1, f2, f3⟩ := fa_dLaw KX
  have hw : Well w.params s₁.heap (.ref D) (.list (ofPys (l.map PyData.int))) := by rw [ofPy] at hw; exact hw
  cases hw with
  | list hD hv => exact law_call H ⟨rfl, by decide, by decide⟩ (gb_of T KX) f1 f2 f3 rfl hD (well_ints hv)
theorem law_said : PySem.Challenge.rw_ta0049_01.wellSaid = true := by
  rw [Fast.te9446332074065402090]
  kernel_rfl
end Mine
theorem Mine.law_holds (facts : ∀ l : List Int, l.length ≤ 63 → ∃ cs c4 ts W, Mine.LawFacts l cs c4 ts W) : PySem.Challenge.rw_ta0049_01.Holds := by
  w_on
  refine holds_law Mine.law_said fun said => ?_
  refine Mine.row_holds said ?_
  intro w s₀ s₁ mg mb G Y fa o pm cd doc dV kV ho hd hcd hD hmg hg args vals as hpre hlay hrd hwl hlo
  have KX := kIn_of Y
  refine Ground.open G ?_
  intro T B D TE TW
  wrow_args hpre hlay hrd hwl hlo
  rename Well _ _ (Value.ref _) _ => hw
  rename ¬ _ < _ => hlen
  refine wpAny_mono (Mine.law_walk facts T KX hmg hg hw (by omega) _) (fun v s' hv => ?_) fun _ _ h => h
  obtain ⟨rfl, k1, k2, k3⟩ := hv
  exact GoodW.toG ⟨.inl ⟨.bool true, .bool true, [], rfl, fun _ => rfl, .bool true, (by refine' postW_of ?pS ?pV ?pE; (case pS => o_shape); (case pV => wtm_val); (case pE => first | rfl | w_fin)), fun _ => ⟨List.nodup_nil, fun _ h => nomatch h⟩⟩, k1, k3, k2.trans hg⟩
end
set_option maxRecDepth 100000 in
set_option maxHeartbeats 8000000 in
theorem PySem.Challenge.cw_ta0049_01_holds : PySem.Challenge.rw_ta0049_01.Holds :=
  Mine.law_holds Mine.law_facts
