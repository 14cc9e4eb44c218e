import PyProof.Rows.All
import Wide.All
import OpenK.AllK
import Wide.FinOn
import Lean
import PySem.Challenge.RW_ij0062_02
set_option Elab.async false
set_option genInjectivity false
set_option genSizeOf false
set_option genSizeOfSpec false
set_option maxRecDepth 100000
set_option linter.unusedVariables false
set_option linter.unusedSimpArgs false
namespace Mine
open PySem PySem.W PySem.Calls PySem.Spec PyProof.Rows
inductive V where
  | none
  | bool (b : Bool)
  | int (i : Int)
  | str (l : List Nat)
  | tup (vs : List V)
  | lst (vs : List V)
  | ref (a : Addr)
  | lit (v : Value)
inductive HO where
  | lst (vs : List V)
  | inst (C dx : Addr)
  | dict (fs : List (Str × V))
  | exc (C : Addr) (dx : Option Addr)
  | cell (d : Option V)
  | pair
mutual
inductive VM (mu : Addr → Prop) (h : Heap) : Value → V → Prop
  | none : VM mu h Value.none V.none
  | bool (b : Bool) : VM mu h (Value.bool b) (V.bool b)
  | int (i : Int) (t : Tok) : VM mu h (Value.int i t) (V.int i)
  | str (x : Str) (t : Tok) : VM mu h (Value.str x t) (V.str x.cps.toList)
  | tup {a : Addr} {o : Obj} {vs : List Value} {n : Nat} {ds : List V} : h.get? a = some o → o.cls = .type "tuple" → o.data = .seq vs.toArray n → ¬ mu a → VMs mu h vs ds → VM mu h (Value.ref a) (V.tup ds)
  | lst {a : Addr} {o : Obj} {vs : List Value} {n : Nat} {ds : List V} : h.get? a = some o → o.cls = .type "list" → o.data = .seq vs.toArray n → ¬ mu a → VMs mu h vs ds → VM mu h (Value.ref a) (V.lst ds)
  | ref (a : Addr) : VM mu h (Value.ref a) (V.ref a)
  | lit (v : Value) : VM mu h v (V.lit v)
inductive VMs (mu : Addr → Prop) (h : Heap) : List Value → List V → Prop
  | nil : VMs mu h [] []
  | cons {v : Value} {vs : List Value} {d : V} {ds : List V} : VM mu h v d → VMs mu h vs ds → VMs mu h (v :: vs) (d :: ds)
end
noncomputable def VMo (mu : Addr → Prop) (h : Heap) (v : Value) : V → Prop
  | .none => v = .none
  | .bool b => v = .bool b
  | .int i => ∃ t, v = .int i t
  | .str l => ∃ t, v = .str ⟨l.toArray⟩ t
  | .tup ds => ∃ a o vs n, v = .ref a ∧ h.get? a = some o ∧ o.cls = .type "tuple" ∧ o.data = .seq vs.toArray n ∧ ¬ mu a ∧ VMs mu h vs ds
  | .lst ds => ∃ a o vs n, v = .ref a ∧ h.get? a = some o ∧ o.cls = .type "list" ∧ o.data = .seq vs.toArray n ∧ ¬ mu a ∧ VMs mu h vs ds
  | .ref a => v = .ref a
  | .lit w => v = w
theorem VM.out {mu : Addr → Prop} {h : Heap} {v : Value} {d : V} (x : VM mu h v d) : VMo mu h v d := by
  cases x with
  | none => exact rfl
  | bool b => exact rfl
  | int i t => exact ⟨t, rfl⟩
  | str x t => exact ⟨t, by rw [Array.toArray_toList]⟩
  | tup a b c d e => exact ⟨_, _, _, _, rfl, a, b, c, d, e⟩
  | lst a b c d e => exact ⟨_, _, _, _, rfl, a, b, c, d, e⟩
  | ref a => exact rfl
  | lit v => exact rfl
theorem VM.noneI {mu : Addr → Prop} {h : Heap} {v : Value} (x : VM mu h v .none) : v = .none := x.out
theorem VM.boolI {mu : Addr → Prop} {h : Heap} {v : Value} {b : Bool} (x : VM mu h v (.bool b)) : v = .bool b := x.out
theorem VM.intI {mu : Addr → Prop} {h : Heap} {v : Value} {i : Int} (x : VM mu h v (.int i)) : ∃ t, v = .int i t := x.out
theorem VM.refI {mu : Addr → Prop} {h : Heap} {v : Value} {a : Addr} (x : VM mu h v (.ref a)) : v = .ref a := x.out
theorem VM.litI {mu : Addr → Prop} {h : Heap} {v w : Value} (x : VM mu h v (.lit w)) : v = w := x.out
theorem VM.strI {mu : Addr → Prop} {h : Heap} {v : Value} {l : List Nat} (x : VM mu h v (.str l)) : ∃ t, v = .str ⟨l.toArray⟩ t := x.out
theorem VM.tupI {mu : Addr → Prop} {h : Heap} {v : Value} {ds : List V} (x : VM mu h v (.tup ds)) : ∃ a o vs n, v = .ref a ∧ h.get? a = some o ∧ o.cls = .type "tuple" ∧ o.data = .seq vs.toArray n ∧ ¬ mu a ∧ VMs mu h vs ds := x.out
theorem VM.lstI {mu : Addr → Prop} {h : Heap} {v : Value} {ds : List V} (x : VM mu h v (.lst ds)) : ∃ a o vs n, v = .ref a ∧ h.get? a = some o ∧ o.cls = .type "list" ∧ o.data = .seq vs.toArray n ∧ ¬ mu a ∧ VMs mu h vs ds := x.out
noncomputable def isSeq : Data → Prop
  | .seq _ _ => True
  | _ => False
structure Ext (L : Addr) (prot : List Addr) (mu : Addr → Prop) (h : Heap) (mu' : Addr → Prop) (h' : Heap) : Prop where
  seq : ∀ a o, h.get? a = some o → ¬ mu a → isSeq o.data → h'.get? a = some o ∧ ¬ mu' a
  obj : ∀ a o, h.get? a = some o → ¬ mu a → a ≠ L → (∀ vs, o.data ≠ .fields vs) → ¬ mu' a ∧ ∃ sl, h'.get? a = some { o with slots := sl }
  watch : ∀ a ∈ prot, ∀ o, h.get? a = some o → h'.get? a = some o ∧ ¬ mu' a
noncomputable def SeqX (mu : Addr → Prop) (h : Heap) (mu' : Addr → Prop) (h' : Heap) : Prop := ∀ a o, h.get? a = some o → ¬ mu a → isSeq o.data → h'.get? a = some o ∧ ¬ mu' a
theorem VM.monoS {mu mu' : Addr → Prop} {h h' : Heap} (x : SeqX mu h mu' h') {v : Value} {d : V} (y : VM mu h v d) : VM mu' h' v d :=
  VM.rec (motive_1 := fun v d _ => VM mu' h' v d) (motive_2 := fun vs ds _ => VMs mu' h' vs ds) .none .bool .int .str (fun ho hc hd hn _ r => .tup (x _ _ ho hn (by rw [hd]; trivial)).1 hc hd (x _ _ ho hn (by rw [hd]; trivial)).2 r)
    (fun ho hc hd hn _ r => .lst (x _ _ ho hn (by rw [hd]; trivial)).1 hc hd (x _ _ ho hn (by rw [hd]; trivial)).2 r) .ref .lit .nil (fun _ _ a r => .cons a r) y
theorem VMs.monoS {mu mu' : Addr → Prop} {h h' : Heap} (x : SeqX mu h mu' h') {vs : List Value} {ds : List V} (y : VMs mu h vs ds) : VMs mu' h' vs ds := by
  induction vs generalizing ds with
  | nil => cases y; exact .nil
  | cons v vs ih => cases y with | cons a r => exact .cons (a.monoS x) (ih r)
theorem VM.mono {L : Addr} {prot : List Addr} {mu mu' : Addr → Prop} {h h' : Heap} (x : Ext L prot mu h mu' h') {v : Value} {d : V} (y : VM mu h v d) : VM mu' h' v d := y.monoS x.seq
theorem VMs.mono {L : Addr} {prot : List Addr} {mu mu' : Addr → Prop} {h h' : Heap} (x : Ext L prot mu h mu' h') {vs : List Value} {ds : List V} (y : VMs mu h vs ds) : VMs mu' h' vs ds := y.monoS x.seq
theorem VMs.length {mu : Addr → Prop} {h : Heap} {vs : List Value} {ds : List V} (x : VMs mu h vs ds) : vs.length = ds.length := by
  induction vs generalizing ds with
  | nil => cases x; rfl
  | cons v vs ih => cases x with | cons a r => simp [ih r]
theorem VMs.append {mu : Addr → Prop} {h : Heap} {vs ws : List Value} {ds es : List V} (x : VMs mu h vs ds) (y : VMs mu h ws es) : VMs mu h (vs ++ ws) (ds ++ es) := by
  induction vs generalizing ds with
  | nil => cases x; exact y
  | cons v vs ih => cases x with | cons a r => exact .cons a (ih r)
theorem VMs.get {mu : Addr → Prop} {h : Heap} {vs : List Value} {ds : List V} (x : VMs mu h vs ds) {k : Nat} {d : V} (e : ds[k]? = some d) : ∃ v, vs[k]? = some v ∧ VM mu h v d := by
  induction vs generalizing ds k with
  | nil => cases x; simp at e
  | cons v vs ih =>
    cases x with
    | cons a r =>
      cases k with
      | zero => simp at e; subst e; exact ⟨v, rfl, a⟩
      | succ k => simp at e; simpa using ih r e
theorem VMs.get' {mu : Addr → Prop} {h : Heap} {vs : List Value} {ds : List V} (x : VMs mu h vs ds) {k : Nat} {v : Value} (e : vs[k]? = some v) : ∃ d, ds[k]? = some d ∧ VM mu h v d := by
  induction vs generalizing ds k with
  | nil => cases x; simp at e
  | cons w vs ih =>
    cases x with
    | cons a r =>
      cases k with
      | zero => simp at e; subst e; exact ⟨_, rfl, a⟩
      | succ k => simp at e; simpa using ih r e
theorem Ext.refl (L : Addr) (prot : List Addr) (mu : Addr → Prop) (h : Heap) (hp : ∀ a ∈ prot, ¬ mu a) : Ext L prot mu h mu h :=
  ⟨fun _ _ e n _ => ⟨e, n⟩, fun _ o e n _ _ => ⟨n, o.slots, e⟩, fun a ha _ e => ⟨e, hp a ha⟩⟩
theorem Ext.trans {L : Addr} {prot : List Addr} {m₁ m₂ m₃ : Addr → Prop} {h₁ h₂ h₃ : Heap} (x : Ext L prot m₁ h₁ m₂ h₂) (y : Ext L prot m₂ h₂ m₃ h₃) : Ext L prot m₁ h₁ m₃ h₃ := by
  refine ⟨fun a o e n q => ?_, fun a o e n l q => ?_, fun a ha o e => ?_⟩
  · have z := x.seq a o e n q
    exact y.seq a o z.1 z.2 q
  · obtain ⟨n', sl, e'⟩ := x.obj a o e n l q
    obtain ⟨n'', sl', e''⟩ := y.obj a _ e' n' l q
    exact ⟨n'', sl', e''⟩
  · have z := x.watch a ha o e
    exact y.watch a ha o z.1
theorem Ext.keeps {L : Addr} {prot : List Addr} {mu : Addr → Prop} {h h' : Heap} (hp : ∀ a ∈ prot, ¬ mu a) (k : ∀ b o, h.get? b = some o → h'.get? b = some o) : Ext L prot mu h mu h' :=
  ⟨fun a o e n _ => ⟨k a o e, n⟩, fun a o e n _ _ => ⟨n, o.slots, k a o e⟩, fun a ha o e => ⟨k a o e, hp a ha⟩⟩
inductive Ents (mu : Addr → Prop) (h : Heap) : List DictEntry → List (Str × V) → Prop
  | nil : Ents mu h [] []
  | cons {e : DictEntry} {es : List DictEntry} {x : Str} {t : Tok} {d : V} {fs : List (Str × V)} : e.key = .str x t → VM mu h e.val d → Ents mu h es fs → Ents mu h (e :: es) ((x, d) :: fs)
theorem Ents.mono {L : Addr} {prot : List Addr} {mu mu' : Addr → Prop} {h h' : Heap} (x : Ext L prot mu h mu' h') {es : List DictEntry} {fs : List (Str × V)} (y : Ents mu h es fs) : Ents mu' h' es fs := by
  induction y with
  | nil => exact .nil
  | cons a b _ ih => exact .cons a (b.mono x) ih
noncomputable def lk (fs : List (Str × V)) (x : Str) : Option V := fs.lookup x
noncomputable def OM (mu : Addr → Prop) (h : Heap) (a : Addr) : HO → Prop
  | .lst ds => ∃ vs n, h.get? a = some (listOf vs.toArray n) ∧ VMs mu h vs ds
  | .inst C dx => h.get? a = some (instObj C dx)
  | .dict fs => ∃ es n, h.get? a = some (dictOf es n) ∧ Ents mu h es fs ∧ es.length ≤ 100
  | .exc C dx => ∃ vs a0, h.get? a = some { cls := .ref C, dict := dx, data := .fields vs } ∧ vs[0]? = some a0 ∧ vs[1]? = some .none ∧ vs.size = 6
  | .cell d => ∃ o v, h.get? a = some o ∧ o.data = .cell v ∧ (match d with | some d => ∃ w, v = some w ∧ VM mu h w d | none => v = none)
  | .pair => ∃ x y : Value, h.get? a = some { cls := .type "tuple", data := .seq #[x, y] }
theorem OM.mono {L : Addr} {prot : List Addr} {mu mu' : Addr → Prop} {h h' : Heap} {a : Addr} {o : HO} (x : Ext L prot mu h mu' h') (e : h'.get? a = h.get? a) (y : OM mu h a o) : OM mu' h' a o := by
  cases o with
  | lst ds => obtain ⟨vs, n, q, r⟩ := y; exact ⟨vs, n, e.trans q, r.mono x⟩
  | inst C dx => exact e.trans y
  | dict fs => obtain ⟨es, n, q, r, z⟩ := y; exact ⟨es, n, e.trans q, r.mono x, z⟩
  | exc C dx => obtain ⟨vs, a0, q, r⟩ := y; exact ⟨vs, a0, e.trans q, r⟩
  | cell d =>
    obtain ⟨o, v, q, r, z⟩ := y
    refine ⟨o, v, e.trans q, r, ?_⟩
    cases d with
    | none => exact z
    | some d => obtain ⟨w, a, b⟩ := z; exact ⟨w, a, b.mono x⟩
  | pair => obtain ⟨u, v, q⟩ := y; exact ⟨u, v, e.trans q⟩
theorem OM.there {mu : Addr → Prop} {h : Heap} {a : Addr} {o : HO} (y : OM mu h a o) : ∃ ob, h.get? a = some ob := by
  cases o with
  | lst ds => obtain ⟨vs, n, q, r⟩ := y; exact ⟨_, q⟩
  | inst C dx => exact ⟨_, y⟩
  | dict fs => obtain ⟨es, n, q, r, z⟩ := y; exact ⟨_, q⟩
  | exc C dx => obtain ⟨vs, a0, q, r⟩ := y; exact ⟨_, q⟩
  | cell d => obtain ⟨o, v, q, r, z⟩ := y; exact ⟨_, q⟩
  | pair => obtain ⟨u, v, q⟩ := y; exact ⟨_, q⟩
structure S where
  loc : List (Str × V)
  hp : Addr → Option HO
noncomputable def S.mu (σ : S) : Addr → Prop := fun a => σ.hp a ≠ none
structure Cx where
  prog : Program
  w : World
  K : Frag
  p : Program
  loose : List Str
  mg : Str → Option Value
  mb : Str → Option Value
  base : Heap
  A : Around
  env : Env
  fenv : Env
  L : Addr
  outer : List Env
  prot : List Addr
  ctx : Option (Addr × Bool) := none
structure Ok (X : Cx) (n : Nat) : Prop where
  inK : X.K.In X.base
  top : TopRead X.p X.loose X.mg X.mb X.base
  frames : X.A.frames = some (X.fenv :: X.outer)
  frame : X.fenv.frame = some X.L
  eframe : X.env.frame = some X.L
  kind : X.env.scope.kind = .function
  genv : X.env.globals = mainGlobals
  benv : X.env.builtins = builtinsNs
  above : X.base.objs.size ≤ X.env.locals
  locProt : X.env.locals ∉ X.prot
  handled : X.A.handled = X.ctx.map fun p => .ref p.1
  ctxIn : ∀ p, X.ctx = some p → p.1 ∈ X.prot
  depth : X.A.depth + 2 * n + 8 < recursionLimit
  units : X.A.units + 20 * n + 300 < cLine
inductive FrIs (base : Heap) (mu : Addr → Prop) (h : Heap) (e : Env) : Prop
  | mk (k0 : e.scope.kind ≠ .module) (L : Addr) (o : Obj) (es : Array DictEntry) (ep : Nat) (k1 : e.frame = some L) (k2 : base.get? L = none) (k3 : ¬ mu L) (k4 : h.get? L = some o) (k5 : o.data = .dict es ep)
theorem funs_of {base : Heap} {mu : Addr → Prop} {h : Heap} : ∀ {l : List Env}, (∀ e ∈ l, FrIs base mu h e) → h.FunFrames base l
  | [], _ => trivial
  | _ :: _, k =>
    let ⟨a, L, o, es, ep, hf, hn, _, ho, hd⟩ := k _ (.head _)
    ⟨a, ⟨L, o, hf, hn, ho, fun _ e => by rw [hd] at e; cases e⟩, funs_of fun e he => k e (.tail _ he)⟩
structure St (X : Cx) (σ : S) (h : Heap) : Prop where
  base : X.base.StaysIn h
  names : ∃ m, h.Ns X.env.locals m ∧ ∀ x d, lk σ.loc x = some d → ∃ v, m x = some v ∧ VM σ.mu h v d
  own : ∀ a o, σ.hp a = some o → OM σ.mu h a o ∧ X.base.get? a = none
  locOff : ¬ σ.mu X.env.locals
  prot : ∀ a ∈ X.prot, ¬ σ.mu a ∧ ∃ o vs, h.get? a = some o ∧ o.data = .fields vs ∧ (X.ctx = some (a, true) → vs[2]? = some .none)
  frs : ∀ e ∈ X.fenv :: X.outer, FrIs X.base σ.mu h e
theorem St.protOff {X : Cx} {σ : S} {h : Heap} (st : St X σ h) : ∀ a ∈ X.prot, ¬ σ.mu a := fun a ha => (st.prot a ha).1
noncomputable def Ctx0 (cls : Value) (vs : Array Value) : Prop := (∃ T, cls = .type T) → vs[2]? = some .none
inductive ExcAt (X : Cx) (mu : Addr → Prop) (h : Heap) (e : Addr) (cls : Value) : Prop
  | mk (k0 : X.base.get? e = none ∧ ¬ mu e) (k1 : e ∉ X.prot) (oe : Obj) (vs : Array Value) (a0 : Value) (k2 : h.get? e = some oe) (k3 : oe.cls = cls) (k4 : oe.data = .fields vs) (k5 : vs[0]? = some a0 ∧ Ctx0 cls vs)
    (k6 : vs[1]? = some .none ∨ ∃ T oT ts, vs[1]? = some (.ref T) ∧ (X.base.get? T = none ∧ ¬ mu T) ∧ T ∉ X.prot ∧ T ≠ e ∧ h.get? T = some oT ∧ oT.data = .fields ts ∧ (ts[3]? = some .none ∨ ts[3]? = some (rawInt X.L)))
structure Post (X : Cx) (σ : S) (s : Shared) (σ' : S) (s' : Shared) : Prop where
  upd : ∃ h' tk', s' = { s with heap := h', toks := tk' }
  ext : Ext X.env.locals X.prot σ.mu s.heap σ'.mu s'.heap
  st : St X σ' s'.heap
theorem Post.refl {X : Cx} {σ : S} {s : Shared} (st : St X σ s.heap) : Post X σ s σ s := ⟨⟨s.heap, s.toks, rfl⟩, Ext.refl _ _ _ _ st.protOff, st⟩
theorem Post.trans {X : Cx} {σ₁ σ₂ σ₃ : S} {s₁ s₂ s₃ : Shared} (a : Post X σ₁ s₁ σ₂ s₂) (b : Post X σ₂ s₂ σ₃ s₃) : Post X σ₁ s₁ σ₃ s₃ := by
  obtain ⟨h₂, t₂, e₂⟩ := a.upd
  obtain ⟨h₃, t₃, e₃⟩ := b.upd
  exact ⟨⟨h₃, t₃, by rw [e₃, e₂]⟩, a.ext.trans b.ext, b.st⟩
section
variable {α β : Type}
inductive Qw (X : Cx) (σ : S) (s : Shared) (R : (Addr → Prop) → Heap → α → β → Prop) (Q : β → S → Prop) (a : α) (s' : Shared) : Prop
  | mk (b : β) (σ' : S) (P : Post X σ s σ' s') (r : R σ'.mu s'.heap a b) (q : Q b σ')
inductive Ew (X : Cx) (σ : S) (s : Shared) (E : Value → S → Prop) (e : Value) (s' : Shared) : Prop
  | mk (ea : Addr) (cls : Value) (σ' : S) (P : Post X σ s σ' s') (he : e = .ref ea) (x : ExcAt X σ'.mu s'.heap ea cls) (q : E cls σ')
noncomputable def W (X : Cx) (t : Sem α) (R : (Addr → Prop) → Heap → α → β → Prop) (σ : S) (Q : β → S → Prop) (E : Value → S → Prop) : Prop :=
  ∀ s, St X σ s.heap → wpAny (model X.prog X.w) X.A t (Qw X σ s R Q) (Ew X σ s E) s
theorem Ew.after {X : Cx} {σ σ₁ : S} {s s₁ s' : Shared} {E : Value → S → Prop} {e : Value} (P : Post X σ s σ₁ s₁) (h : Ew X σ₁ s₁ E e s') : Ew X σ s E e s' := by
  obtain ⟨ea, cls, σ', q, r1, r2, r3⟩ := h
  exact ⟨ea, cls, σ', P.trans q, r1, r2, r3⟩
theorem Qw.after {X : Cx} {σ σ₁ : S} {s s₁ s' : Shared} {R : (Addr → Prop) → Heap → α → β → Prop} {Q : β → S → Prop} {a : α} (P : Post X σ s σ₁ s₁) (h : Qw X σ₁ s₁ R Q a s') : Qw X σ s R Q a s' := by
  obtain ⟨b, σ', q, r1, r2⟩ := h
  exact ⟨b, σ', P.trans q, r1, r2⟩
theorem W.run {X : Cx} {t : Sem α} {R : (Addr → Prop) → Heap → α → β → Prop} {σ : S} {Q : β → S → Prop} {E : Value → S → Prop} (h : W X t R σ Q E) {σ₀ : S} {s₀ s : Shared} (P : Post X σ₀ s₀ σ s)
    {Q' : α → Shared → Prop} (hq : ∀ a s' b σ', Post X σ s σ' s' → Post X σ₀ s₀ σ' s' → R σ'.mu s'.heap a b → Q b σ' → Q' a s') : wpAny (model X.prog X.w) X.A t Q' (Ew X σ₀ s₀ E) s := by
  refine wpAny_mono (h s P.st) (fun a s' q => ?_) fun e s' q => q.after P
  obtain ⟨b, σ', p, r, q⟩ := q
  exact hq a s' b σ' p (P.trans p) r q
theorem W.hide {X : Cx} {t : Sem α} {R : (Addr → Prop) → Heap → α → β → Prop} {σ : S} {Q : β → S → Prop} {E : Value → S → Prop} (h : ∀ Q' E', (∀ b σ', Q b σ' → Q' b σ') → (∀ c σ', E c σ' → E' c σ') → W X t R σ Q' E') : W X t R σ Q E := h Q E (fun _ _ q => q) fun _ _ q => q
theorem W.hideQ {X : Cx} {t : Sem α} {R : (Addr → Prop) → Heap → α → β → Prop} {σ : S} {Q : β → S → Prop} {E : Value → S → Prop} (h : ∀ Q', (∀ b σ', Q b σ' → Q' b σ') → W X t R σ Q' E) : W X t R σ Q E := h Q fun _ _ q => q
theorem W.mono {X : Cx} {t : Sem α} {R : (Addr → Prop) → Heap → α → β → Prop} {σ : S} {Q Q' : β → S → Prop} {E E' : Value → S → Prop} (h : W X t R σ Q E) (hq : ∀ b σ', Q b σ' → Q' b σ') (he : ∀ c σ', E c σ' → E' c σ') : W X t R σ Q' E' := by
  intro s st
  refine wpAny_mono (h s st) (fun a s' q => ?_) fun e s' q => ?_
  · obtain ⟨b, σ', p, r, q⟩ := q
    exact ⟨b, σ', p, r, hq _ _ q⟩
  · obtain ⟨ea, cls, σ', p, r, z, q⟩ := q
    exact ⟨ea, cls, σ', p, r, z, he _ _ q⟩
end
noncomputable abbrev RU : (Addr → Prop) → Heap → Unit → Unit → Prop := fun _ _ _ _ => True
noncomputable abbrev RB : (Addr → Prop) → Heap → Bool → Bool → Prop := fun _ _ a b => a = b
inductive FV where
  | next | brk | cont | ret (d : V)
noncomputable def FM (mu : Addr → Prop) (h : Heap) : Flow → FV → Prop
  | .next, .next => True
  | .brk, .brk => True
  | .cont, .cont => True
  | .ret v, .ret d => VM mu h v d
  | _, _ => False
theorem Post.keeps {X : Cx} {σ : S} {s s' : Shared} (st : St X σ s.heap) (h' : Heap) (tk' : Nat) (e : s' = { s with heap := h', toks := tk' }) (k : ∀ b o, s.heap.get? b = some o → h'.get? b = some o) : Post X σ s σ s' := by
  subst e
  have x : Ext X.env.locals X.prot σ.mu s.heap σ.mu h' := Ext.keeps st.protOff k
  refine ⟨⟨h', tk', rfl⟩, x, ⟨fun b o q => k b o (st.base b o q), ?_, ?_, st.locOff, fun a ha => ?_, fun e he => ?_⟩⟩
  · obtain ⟨m, hn, hm⟩ := st.names
    exact ⟨m, hn.keeps k, fun y d q => let ⟨v, a, b⟩ := hm y d q; ⟨v, a, b.mono x⟩⟩
  · intro a o q
    obtain ⟨y, z⟩ := st.own a o q
    obtain ⟨ob, g⟩ := y.there
    exact ⟨y.mono x ((k a ob g).trans g.symm), z⟩
  · obtain ⟨z, o, vs, g, d⟩ := st.prot a ha
    exact ⟨z, o, vs, k a o g, d⟩
  · obtain ⟨z, L, o, es, ep, hf, hn, hm, g, d⟩ := st.frs e he
    exact ⟨z, L, o, es, ep, hf, hn, hm, k L o g, d⟩
theorem St.fr {X : Cx} {n : Nat} (ok : Ok X n) {σ : S} {h : Heap} (st : St X σ h) : ∃ m, Fr X.base X.env.locals h m ∧ ∀ x d, lk σ.loc x = some d → ∃ v, m x = some v ∧ VM σ.mu h v d := by
  obtain ⟨m, hn, hm⟩ := st.names
  exact ⟨m, ⟨hn, st.base, ok.above⟩, hm⟩
theorem St.inK {X : Cx} {n : Nat} (ok : Ok X n) {σ : S} {h : Heap} (st : St X σ h) : X.K.In h := ok.inK.keeps st.base
end Mine
namespace Mine
open PySem PySem.W PySem.Calls PySem.Spec PyProof.Rows
section
variable {X : Cx} {n : Nat} {σ : S} {E : Value → S → Prop}
noncomputable abbrev WE (X : Cx) (e : Expr) (σ : S) (Q : V → S → Prop) (E : Value → S → Prop) : Prop := W X (eval e X.env) VM σ Q E
noncomputable abbrev WX (X : Cx) (st : Stmt) (σ : S) (Q : FV → S → Prop) (E : Value → S → Prop) : Prop := W X (exec st X.env) FM σ Q E
noncomputable abbrev WXs (X : Cx) (st : List Stmt) (σ : S) (Q : FV → S → Prop) (E : Value → S → Prop) : Prop := W X (execs st X.env) FM σ Q E
noncomputable abbrev WT (X : Cx) (e : Expr) (σ : S) (Q : Bool → S → Prop) (E : Value → S → Prop) : Prop := W X (isTrue e X.env (eval e X.env)) RB σ Q E
theorem qw_same {α β : Type} {R : (Addr → Prop) → Heap → α → β → Prop} {s : Shared} {a : α} {b : β} {Q : β → S → Prop} (st : St X σ s.heap) (tk : Nat) (r : R σ.mu s.heap a b) (q : Q b σ) : Qw X σ s R Q a { s with toks := tk } :=
  ⟨b, σ, ⟨⟨s.heap, tk, rfl⟩, Ext.refl _ _ _ _ st.protOff, st⟩, r, q⟩
theorem qw_self {α β : Type} {R : (Addr → Prop) → Heap → α → β → Prop} {s : Shared} {a : α} {b : β} {Q : β → S → Prop} (st : St X σ s.heap) (r : R σ.mu s.heap a b) (q : Q b σ) : Qw X σ s R Q a s :=
  ⟨b, σ, Post.refl st, r, q⟩
theorem W_int {i : Int} {k : Nat} {pos : Pos} {Q : V → S → Prop} (q : Q (.int i) σ) : WE X (.Constant (.int i) k pos) σ Q E := fun _ st =>
  wpAny_Constant_int (qw_same st _ (.int i _) q)
theorem W_str {x : Str} {l : List Nat} {k : Nat} {pos : Pos} {Q : V → S → Prop} (e : x.cps.toList = l) (q : Q (.str l) σ) : WE X (.Constant (.str x) k pos) σ Q E := fun _ st =>
  wpAny_Constant_str (qw_same st _ (.str x _) (e ▸ q))
theorem W_none {k : Nat} {pos : Pos} {Q : V → S → Prop} (q : Q .none σ) : WE X (.Constant .none k pos) σ Q E := fun _ st => wpAny_Constant_none (qw_self st .none q)
theorem W_bool {b : Bool} {k : Nat} {pos : Pos} {Q : V → S → Prop} (q : Q (.bool b) σ) : WE X (.Constant (.bool b) k pos) σ Q E := fun _ st => wpAny_Constant_bool (qw_self st (.bool b) q)
theorem W_local {x : Str} {pos : Pos} {d : V} {Q : V → S → Prop} (ok : Ok X n) (hx : X.env.kindOf x = some .local) (e : lk σ.loc x = some d) (q : Q d σ) (hd : (x == ("__debug__" : Str)) = false) :
    WE X (.Name x pos) σ Q E := fun _ st => by
  obtain ⟨m, hn, hm⟩ := st.names
  obtain ⟨v, hv, vm⟩ := hm x d e
  exact wpAny_Name (wpAny_loadName_local ok.kind hx hn hv (qw_self st vm q)) hd
theorem W_global {x : Str} {pos : Pos} {v : Value} {Q : V → S → Prop} (ok : Ok X n) (hx : X.env.kindOf x = some .globalImplicit) (e : nsIn X.K mainGlobals x = some (some v)) (q : Q (.lit v) σ) (hd : (x == ("__debug__" : Str)) = false) :
    WE X (.Name x pos) σ Q E := fun _ st =>
  Name_function_global ok.kind hx (loadGlobal_global (ok.genv ▸ ok.top.g.keeps st.base) (mg_of ok.inK ok.top.g e) (qw_self st (.lit v) q)) hd
theorem W_builtin {x : Str} {pos : Pos} {v : Value} {Q : V → S → Prop} (ok : Ok X n) (hx : X.env.kindOf x = some .globalImplicit) (e : nsIn X.K mainGlobals x = some none) (hv : bootBuiltins x = some v) (hn : x ≠ "__name__") (q : Q (.lit v) σ) (hd : (x == ("__debug__" : Str)) = false) :
    WE X (.Name x pos) σ Q E := fun _ st =>
  Name_function_global ok.kind hx (loadGlobal_builtin (ok.genv ▸ ok.top.g.keeps st.base) (mg_none_of ok.inK ok.top.g e) (ok.benv ▸ ok.top.b.keeps st.base) ((ok.top.builtins x hn).trans hv) (qw_self st (.lit v) q)) hd
noncomputable def Op2 (X : Cx) (t : Value → Value → Sem Value) (a b : V) (σ : S) (Q : V → S → Prop) (E : Value → S → Prop) : Prop :=
  ∀ v w s, St X σ s.heap → VM σ.mu s.heap v a → VM σ.mu s.heap w b → wpAny (model X.prog X.w) X.A (t v w) (Qw X σ s VM Q) (Ew X σ s E) s
noncomputable def Tr (X : Cx) (a : V) (σ : S) (Q : Bool → S → Prop) (E : Value → S → Prop) : Prop :=
  ∀ v s, St X σ s.heap → VM σ.mu s.heap v a → wpAny (model X.prog X.w) X.A (truthy v) (Qw X σ s RB Q) (Ew X σ s E) s
noncomputable def Op1 (X : Cx) (t : Value → Sem Value) (a : V) (σ : S) (Q : V → S → Prop) (E : Value → S → Prop) : Prop :=
  ∀ v s, St X σ s.heap → VM σ.mu s.heap v a → wpAny (model X.prog X.w) X.A (t v) (Qw X σ s VM Q) (Ew X σ s E) s
theorem Op2.go {t : Value → Value → Sem Value} {a b : V} {Q : V → S → Prop} (h : Op2 X t a b σ Q E) {σ₀ : S} {s₀ s : Shared} (P : Post X σ₀ s₀ σ s) {v w : Value} (va : VM σ.mu s.heap v a) (wb : VM σ.mu s.heap w b) :
    wpAny (model X.prog X.w) X.A (t v w) (Qw X σ₀ s₀ VM Q) (Ew X σ₀ s₀ E) s :=
  wpAny_mono (h v w s P.st va wb) (fun _ _ q => q.after P) fun _ _ q => q.after P
theorem Op1.go {t : Value → Sem Value} {a : V} {Q : V → S → Prop} (h : Op1 X t a σ Q E) {σ₀ : S} {s₀ s : Shared} (P : Post X σ₀ s₀ σ s) {v : Value} (va : VM σ.mu s.heap v a) :
    wpAny (model X.prog X.w) X.A (t v) (Qw X σ₀ s₀ VM Q) (Ew X σ₀ s₀ E) s :=
  wpAny_mono (h v s P.st va) (fun _ _ q => q.after P) fun _ _ q => q.after P
theorem Tr.go {a : V} {Q : Bool → S → Prop} (h : Tr X a σ Q E) {σ₀ : S} {s₀ s : Shared} (P : Post X σ₀ s₀ σ s) {v : Value} (va : VM σ.mu s.heap v a) :
    wpAny (model X.prog X.w) X.A (truthy v) (Qw X σ₀ s₀ RB Q) (Ew X σ₀ s₀ E) s :=
  wpAny_mono (h v s P.st va) (fun _ _ q => q.after P) fun _ _ q => q.after P
theorem W.go {α β : Type} {t : Sem α} {R : (Addr → Prop) → Heap → α → β → Prop} {Q : β → S → Prop} (h : W X t R σ Q E) {σ₀ : S} {s₀ s : Shared} (P : Post X σ₀ s₀ σ s) : wpAny (model X.prog X.w) X.A t (Qw X σ₀ s₀ R Q) (Ew X σ₀ s₀ E) s :=
  wpAny_mono (h s P.st) (fun _ _ q => q.after P) fun _ _ q => q.after P
theorem W_BinOp {l r : Expr} {op : Operator} {pos : Pos} {Q : V → S → Prop} (h : WE X l σ (fun a σ₁ => WE X r σ₁ (fun b σ₂ => Op2 X (binaryOp op) a b σ₂ Q E) E) E) : WE X (.BinOp l op r pos) σ Q E := fun _ st =>
  wpAny_BinOp (h.run (Post.refl st) fun _ _ _ _ _ P₁ va h₁ => h₁.run P₁ fun _ _ _ _ p₂ P₂ vb h₂ => h₂.go P₂ (va.mono p₂.ext) vb)
theorem WT_Compare {l r : Expr} {op : CmpOp} {pos : Pos} {Q : Bool → S → Prop} (h : WE X l σ (fun a σ₁ => WE X r σ₁ (fun b σ₂ => Op2 X (compareOp op) a b σ₂ (fun c σ₃ => Tr X c σ₃ Q E) E) E) E) (hm : behindInMarks op r = false) :
    WT X (.Compare l [op] [r] pos) σ Q E := fun _ st =>
  wpAny_isTrue_Compare1 (h.run (Post.refl st) fun _ _ _ _ _ P₁ va h₁ => h₁.run P₁ fun _ _ _ _ p₂ P₂ vb h₂ => wpAny_mono (h₂.go P₂ (va.mono p₂.ext) vb) (fun _ _ q => by
    obtain ⟨c, σ₃, P₃, vc, h₃⟩ := q
    exact h₃.go P₃ vc) fun _ _ e => e) hm
theorem WT_Not {x : Expr} {pos : Pos} {Q : Bool → S → Prop} (h : WT X x σ (fun b σ₁ => Q (!b) σ₁) E) : WT X (.UnaryOp .Not x pos) σ Q E := fun _ st =>
  wpAny_isTrue_Not (h.run (Post.refl st) fun _ _ _ _ _ P₁ e q => by subst e; exact ⟨_, _, P₁, rfl, q⟩)
theorem WT_value {e : Expr} {Q : Bool → S → Prop} (h : WE X e σ (fun a σ₁ => Tr X a σ₁ Q E) E) (he : ∀ env whole, isTrue e env whole = (do let v ← whole; standAt e.pos; holding [v] (truthy v))) : WT X e σ Q E := fun _ st =>
  wpAny_isTrue_value (h.run (Post.refl st) fun _ _ _ _ _ P₁ va h₁ => h₁.go P₁ va) (he _ _)
theorem WT_And2 {x y : Expr} {pos : Pos} {Q : Bool → S → Prop} (h : WT X x σ (fun b σ₁ => if b then WT X y σ₁ Q E else Q false σ₁) E) : WT X (.BoolOp .And [x, y] pos) σ Q E := fun _ st =>
  wpAny_isTrue_BoolOp (wpAny_allTrue_And_cons (h.run (Post.refl st) fun _ _ _ _ _ P₁ e q => by
    subst e
    split at q
    · rename_i e; subst e
      rw [if_pos rfl]
      refine wpAny_allTrue_And_cons (q.run P₁ fun _ _ _ _ _ P₂ e q => ?_)
      subst e
      split
      · rename_i e; subst e; exact wpAny_allTrue_And_nil ⟨_, _, P₂, rfl, q⟩
      · rename_i e; rw [Bool.not_eq_true] at e; subst e; exact ⟨_, _, P₂, rfl, q⟩
    · rename_i e; rw [Bool.not_eq_true] at e; subst e
      exact ⟨_, _, P₁, rfl, q⟩))
theorem WT_Or2 {x y : Expr} {pos : Pos} {Q : Bool → S → Prop} (h : WT X x σ (fun b σ₁ => if b then Q true σ₁ else WT X y σ₁ Q E) E) : WT X (.BoolOp .Or [x, y] pos) σ Q E := fun _ st =>
  wpAny_isTrue_BoolOp (wpAny_allTrue_Or_cons (h.run (Post.refl st) fun _ _ _ _ _ P₁ e q => by
    subst e
    split at q
    · rename_i e; subst e
      exact ⟨_, _, P₁, rfl, q⟩
    · rename_i e; rw [Bool.not_eq_true] at e; subst e
      rw [if_neg (by decide)]
      refine wpAny_allTrue_Or_cons (q.run P₁ fun _ _ _ _ _ P₂ e q => ?_)
      subst e
      split
      · rename_i e; subst e; exact ⟨_, _, P₂, rfl, q⟩
      · rename_i e; rw [Bool.not_eq_true] at e; subst e; exact wpAny_allTrue_Or_nil ⟨_, _, P₂, rfl, q⟩))
theorem W_Or {x y : Expr} {pos : Pos} {Q : V → S → Prop} (h : WE X x σ (fun a σ₁ => Tr X a σ₁ (fun b σ₂ => if b then Q a σ₂ else WE X y σ₂ Q E) E) E) : WE X (.BoolOp .Or [x, y] pos) σ Q E := fun _ st =>
  wpAny_Or2 (h.run (Post.refl st) fun _ s₁ _ _ _ P₁ va h₁ => wpAny_mono (h₁ _ s₁ P₁.st va) (fun b s₂ q => by
    obtain ⟨c, σ₃, p₃, e, h₃⟩ := q
    have P₃ := P₁.trans p₃
    cases e
    cases b
    · simp only [Bool.false_eq_true, if_false] at h₃ ⊢
      exact h₃.go P₃
    · simp only [if_true] at h₃ ⊢
      exact ⟨_, _, P₃, va.mono p₃.ext, h₃⟩) fun _ _ e => e.after P₁)
theorem W_Unary {op : UnaryOp} {x : Expr} {pos : Pos} {Q : V → S → Prop} (h : WE X x σ (fun a σ₁ => Op1 X (unaryOp op) a σ₁ Q E) E) : WE X (.UnaryOp op x pos) σ Q E := fun _ st =>
  wpAny_UnaryOp (h.run (Post.refl st) fun _ _ _ _ _ P₁ va h₁ => h₁.go P₁ va)
theorem WA_nil {Q : List V → S → Prop} (q : Q [] σ) : W X (spliced []) VMs σ Q E := fun _ st => spliced_nil (qw_self st .nil q)
theorem WA_cons {e : Expr} {rest : List (Bool × Sem Value)} {Q : List V → S → Prop} (h : WE X e σ (fun a σ₁ => W X (spliced rest) VMs σ₁ (fun as σ₂ => Q (a :: as) σ₂) E) E) : W X (spliced ((false, eval e X.env) :: rest)) VMs σ Q E := fun _ st =>
  spliced_cons (h.run (Post.refl st) fun _ _ _ _ _ P₁ va h₁ => h₁.run P₁ fun _ _ _ _ p₂ P₂ vs q => ⟨_, _, P₂, .cons (va.mono p₂.ext) vs, q⟩)
theorem st_push {s : Shared} (st : St X σ s.heap) (o : Obj) : Post X σ s σ { s with heap := s.heap.push o } :=
  Post.keeps st _ s.toks rfl fun _ _ e => Heap.get?_push_of_some _ e
theorem new_none {s : Shared} (st : St X σ s.heap) : σ.hp s.heap.objs.size = none := by
  cases e : σ.hp s.heap.objs.size with
  | none => rfl
  | some o =>
    obtain ⟨ob, g⟩ := (st.own _ o e).1.there
    exact absurd (Heap.lt_size g) (Nat.lt_irrefl _)
theorem new_off {s : Shared} (st : St X σ s.heap) : ¬ σ.mu s.heap.objs.size := fun hm => hm (new_none st)
theorem W_Tuple {elts : List Expr} {k : Nat} {pos : Pos} {Q : V → S → Prop} (h : W X (spliced (backTo pos (starEach elts X.env))) VMs σ (fun as σ₁ => as.length ≤ 1000 ∧ Q (.tup as) σ₁) E) : WE X (.Tuple elts k pos) σ Q E := fun _ st =>
  Tuple_ (h.run (Post.refl st) fun vs s₁ as σ₁ _ P₁ va q => wpAny_newObj_type (⟨_, σ₁, P₁.trans (st_push P₁.st _), .tup (Heap.get?_push_size _ rfl) rfl rfl (new_off P₁.st) (va.mono (st_push P₁.st _).ext), q.2⟩)
    (by show vs.toArray.size ≤ sizeLine; rw [List.size_toArray, va.length, sizeLine_eq]; omega))
theorem W_List {elts : List Expr} {pos : Pos} {Q : V → S → Prop} (h : W X (spliced (backTo pos (starEach elts X.env))) VMs σ (fun as σ₁ => as.length ≤ 1000 ∧ Q (.lst as) σ₁) E) : WE X (.List elts pos) σ Q E := fun _ st =>
  List_ (h.run (Post.refl st) fun vs s₁ as σ₁ _ P₁ va q => wpAny_newObj_type (⟨_, σ₁, P₁.trans (st_push P₁.st _), .lst (Heap.get?_push_size _ rfl) rfl rfl (new_off P₁.st) (va.mono (st_push P₁.st _).ext), q.2⟩)
    (by show vs.toArray.size ≤ sizeLine; rw [List.size_toArray, va.length, sizeLine_eq]; omega))
theorem WXs_nil {Q : FV → S → Prop} (q : Q .next σ) : WXs X [] σ Q E := fun _ st => wpAny_execs_nil ⟨.next, σ, Post.refl st, trivial, q⟩
theorem WXs_cons {st : Stmt} {rest : List Stmt} {Q : FV → S → Prop} (h : WX X st σ (fun f σ₁ => match f with | .next => WXs X rest σ₁ Q E | f => Q f σ₁) E) : WXs X (st :: rest) σ Q E := fun _ sst =>
  wpAny_execs_cons (h.run (Post.refl sst) fun f s₁ g σ₁ _ P₁ r q => by
    cases f <;> cases g <;> first | exact r.elim | exact q.go P₁ | exact ⟨_, _, P₁, r, q⟩)
theorem WX_If {test : Expr} {body orelse : List Stmt} {pos : Pos} {Q : FV → S → Prop} (h : WT X test σ (fun b σ₁ => if b then WXs X body σ₁ Q E else WXs X orelse σ₁ Q E) E) : WX X (.If test body orelse pos) σ Q E := fun _ st =>
  wpAny_If (h.run (Post.refl st) fun b _ _ _ _ P₁ e h₁ => by
    subst e
    cases b
    · simp only [Bool.false_eq_true, if_false] at h₁ ⊢
      exact h₁.go P₁
    · simp only [if_true] at h₁ ⊢
      exact h₁.go P₁)
theorem WX_Return {e : Expr} {pos : Pos} {Q : FV → S → Prop} (h : WE X e σ (fun a σ₁ => Q (.ret a) σ₁) E) : WX X (.Return (some e) pos) σ Q E := fun _ st =>
  wpAny_Return_some (h.run (Post.refl st) fun _ _ a _ _ P₁ va q => ⟨.ret a, _, P₁, va, q⟩)
theorem WX_Return0 {pos : Pos} {Q : FV → S → Prop} (q : Q (.ret .none) σ) : WX X (.Return none pos) σ Q E := fun _ st => wpAny_Return_none ⟨.ret .none, _, Post.refl st, VM.none, q⟩
theorem WX_Break {pos : Pos} {Q : FV → S → Prop} (q : Q .brk σ) : WX X (.Break pos) σ Q E := fun _ st => wpAny_Break ⟨.brk, _, Post.refl st, trivial, q⟩
theorem WX_Expr {e : Expr} {pos : Pos} {Q : FV → S → Prop} (ok : Ok X n) (h : WE X e σ (fun _ σ₁ => Q .next σ₁) E) (hs : ∀ env, swapsWith e none pos.line env = pure false) : WX X (.Expr e pos) σ Q E := fun _ st =>
  wpAny_Expr_any (h.run (Post.refl st) fun _ _ a _ _ P₁ va q => ⟨.next, _, P₁, trivial, q⟩) (by unfold interactive; rw [ok.kind]; rfl) (hs _)
noncomputable def put (fs : List (Str × V)) (x : Str) (d : V) : List (Str × V) := (x, d) :: fs.filter (fun p => !(p.1 == x))
theorem lk_put_self {fs : List (Str × V)} {x : Str} {d : V} : lk (put fs x d) x = some d := by simp [lk, put, List.lookup]
theorem lk_put_ne {fs : List (Str × V)} {x y : Str} {d : V} (h : y ≠ x) : lk (put fs x d) y = lk fs y := by
  have e : (y == x) = false := by simpa using h
  unfold lk put
  rw [List.lookup_cons, e]
  dsimp only
  induction fs with
  | nil => rfl
  | cons p r ih =>
    rw [List.filter_cons]
    by_cases q : p.1 = x
    · have e1 : (p.1 == x) = true := by simpa using q
      simp only [e1, Bool.not_true, Bool.false_eq_true, if_false]
      rw [ih, List.lookup_cons]
      have : (y == p.1) = false := by simpa [q] using h
      rw [this]
    · have e1 : (p.1 == x) = false := by simpa using q
      simp only [e1, Bool.not_false, if_true]
      rw [List.lookup_cons, List.lookup_cons, ih]
theorem Post.frame {s : Shared} {h' : Heap} {tk : Nat} {loc : List (Str × V)} {m : Str → Option Value} (ok : Ok X n) (st : St X σ s.heap) (hs : Heap.SameBut X.env.locals s.heap h') (hn : h'.Ns X.env.locals m)
    (hm : ∀ x d, lk loc x = some d → ∃ v, m x = some v ∧ VM σ.mu s.heap v d) : Post X σ s { σ with loc := loc } { s with heap := h', toks := tk } := by
  obtain ⟨m₀, hn₀, _⟩ := st.names
  obtain ⟨oL, esL, epL, gL, dL, _⟩ := hn₀
  have x : Ext X.env.locals X.prot σ.mu s.heap σ.mu h' := by
    refine ⟨fun a o e nm q => ⟨(hs.2 a fun z => ?_).trans e, nm⟩, fun a o e nm l q => ⟨nm, o.slots, (hs.2 a l).trans e⟩, fun a ha o e => ⟨(hs.2 a fun z => ?_).trans e, st.protOff a ha⟩⟩
    · rw [z, gL] at e; cases e; rw [dL] at q; exact q
    · exact ok.locProt (z ▸ ha)
  refine ⟨⟨h', tk, rfl⟩, x, ⟨fun b o e => (hs.2 b (Nat.ne_of_lt (Nat.lt_of_lt_of_le (Heap.lt_size e) ok.above))).trans (st.base b o e), ⟨m, hn, fun y d e => let ⟨v, a, b⟩ := hm y d e; ⟨v, a, b.mono x⟩⟩, fun a o q => ?_, st.locOff, fun a ha => ?_, fun e he => ?_⟩⟩
  · obtain ⟨y, z⟩ := st.own a o q
    exact ⟨y.mono x (hs.2 a fun e => st.locOff (by rw [← e]; show σ.hp a ≠ none; rw [q]; exact Option.some_ne_none o)), z⟩
  · obtain ⟨z, o, vs, g, d⟩ := st.prot a ha
    exact ⟨z, o, vs, (hs.2 a fun e => ok.locProt (e ▸ ha)).trans g, d⟩
  · obtain ⟨z, L, o, es, ep, hf, hnb, hmu, g, d⟩ := st.frs e he
    by_cases q : L = X.env.locals
    · obtain ⟨o', es', ep', g', d', _⟩ := hn
      exact ⟨z, L, o', es', ep', hf, hnb, hmu, q ▸ g', d'⟩
    · exact ⟨z, L, o, es, ep, hf, hnb, hmu, (hs.2 L q).trans g, d⟩
theorem store_local {x : Str} {d : V} {Q : Unit → S → Prop} (ok : Ok X n) (hx : X.env.kindOf x = some .local) (q : Q () { σ with loc := put σ.loc x d }) {σ₀ : S} {s₀ s : Shared} (P : Post X σ₀ s₀ σ s) {v : Value} (vm : VM σ.mu s.heap v d) :
    wpAny (model X.prog X.w) X.A (storeName X.env x v) (Qw X σ₀ s₀ RU Q) (Ew X σ₀ s₀ E) s := by
  obtain ⟨m, hn, hm⟩ := P.st.names
  refine wpAny_storeName_local hx hn (fun h' hn' hs => ⟨(), _, P.trans (Post.frame ok P.st hs hn' fun y e he => ?_), trivial, q⟩) (by rw [ok.kind]; rfl)
  by_cases z : y = x
  · subst z
    rw [lk_put_self] at he
    cases he
    exact ⟨v, if_pos rfl, vm⟩
  · rw [lk_put_ne z] at he
    obtain ⟨w, a, b⟩ := hm y e he
    exact ⟨w, by rw [if_neg z]; exact a, b⟩
theorem WX_Assign {x : Str} {px pos : Pos} {e : Expr} {Q : FV → S → Prop} (ok : Ok X n) (hx : X.env.kindOf x = some .local) (h : WE X e σ (fun d σ₁ => Q .next { σ₁ with loc := put σ₁.loc x d }) E)
    (hs : ∀ env, swapsWith e (some (.Name x px)) pos.line env = pure false) : WX X (.Assign [.Name x px] e pos) σ Q E := fun _ st =>
  wpAny_Assign_Name (h.run (Post.refl st) fun v s₁ d σ₁ _ P₁ vm q => wpAny_mono (store_local (E := E) (Q := fun _ σ' => Q .next σ') ok hx q P₁ vm) (fun _ _ ⟨_, σ', P', _, q'⟩ => ⟨.next, σ', P', trivial, q'⟩) fun _ _ e => e) (hs _)
theorem WX_Aug {x : Str} {px pos : Pos} {e : Expr} {op : Operator} {d : V} {Q : FV → S → Prop} (ok : Ok X n) (hx : X.env.kindOf x = some .local) (hd : lk σ.loc x = some d)
    (h : WE X e σ (fun b σ₁ => Op2 X (inplaceOp op) d b σ₁ (fun r σ₂ => Q .next { σ₂ with loc := put σ₂.loc x r }) E) E) : WX X (.AugAssign (.Name x px) op e pos) σ Q E := fun _ st => by
  obtain ⟨m, hn, hm⟩ := st.names
  obtain ⟨v, hv, vm⟩ := hm x d hd
  refine wpAny_AugAssign_Name (wpAny_loadName_local ok.kind hx hn hv (h.run (Post.refl st) fun w s₁ b σ₁ p₁ P₁ wm h₁ => ?_))
  refine wpAny_mono (h₁.go P₁ (vm.mono p₁.ext) wm) (fun r s₂ q => ?_) fun _ _ e => e
  obtain ⟨c, σ₂, P₂, rm, h₂⟩ := q
  exact wpAny_mono (store_local (E := E) (Q := fun _ σ' => Q .next σ') ok hx h₂ P₂ rm) (fun _ _ ⟨_, σ', P', _, q'⟩ => ⟨.next, σ', P', trivial, q'⟩) fun _ _ e => e
end
end Mine
namespace Mine
open PySem PySem.W PySem.Calls PySem.Spec PyProof.Rows
section
variable {X : Cx} {n : Nat} {σ : S} {E : Value → S → Prop}
noncomputable def upd (hp : Addr → Option HO) (a : Addr) (o : HO) : Addr → Option HO := fun b => if b = a then some o else hp b
theorem upd_self {hp : Addr → Option HO} {a : Addr} {o : HO} : upd hp a o a = some o := if_pos rfl
theorem upd_ne {hp : Addr → Option HO} {a b : Addr} {o : HO} (h : b ≠ a) : upd hp a o b = hp b := if_neg h
noncomputable def V.isLit : V → Bool
  | .lit _ => true
  | _ => false
theorem nl {v : V} (h : v.isLit = false) : ∀ w, v ≠ .lit w := fun w e => Bool.noConfusion ((congrArg V.isLit e).symm.trans h)
theorem upd_upd {hp : Addr → Option HO} {a : Addr} {o o' : HO} : upd (upd hp a o) a o' = upd hp a o' := by
  funext b; unfold upd; split <;> rfl
theorem hp_ne {hp : Addr → Option HO} {a b : Addr} {o : HO} (h1 : hp a = some o) (h2 : hp b = none) : b ≠ a := fun e => by
  rw [e, h1] at h2; cases h2
noncomputable def HO.kd : HO → Nat
  | .inst _ _ => 0
  | .dict _ => 1
  | .cell _ => 2
  | _ => 3
theorem kd_ne {hp : Addr → Option HO} {a b : Addr} {o o' : HO} (h1 : hp a = some o) (h2 : hp b = some o') (k : (o.kd == o'.kd) = false) : a ≠ b := fun e => by
  rw [e, h2] at h1; cases h1
  rw [beq_self_eq_true] at k; cases k
theorem upd_com0 {hp : Addr → Option HO} {a b : Addr} (h : b ≠ a) (D' L : HO) : upd (upd hp b L) a D' = upd (upd hp a D') b L := by
  funext c
  by_cases h1 : c = a
  · rw [h1, upd_self, upd_ne h.symm, upd_self]
  · rw [upd_ne h1]
    by_cases h2 : c = b
    · rw [h2, upd_self, upd_self]
    · rw [upd_ne h2, upd_ne h2, upd_ne h1]
theorem upd_com {hp : Addr → Option HO} {a b : Addr} (h : b ≠ a) (D D' L : HO) : upd (upd (upd hp a D) b L) a D' = upd (upd hp a D') b L := by
  rw [upd_com0 h, upd_upd]
theorem upd_sub {hp : Addr → Option HO} {a b : Addr} (h : b ≠ a) (hb : hp b = none) (D L : HO) (c : Addr) (o : HO) (e : upd hp a D c = some o) : upd (upd hp a D) b L c = some o := by
  by_cases hcb : c = b
  · rw [hcb, upd_ne h, hb] at e; cases e
  · rw [upd_ne hcb]; exact e
theorem post_write {s : Shared} {h' : Heap} {tk : Nat} {a : Addr} {o : HO} (ok : Ok X n) (st : St X σ s.heap) (k : ∀ b o, b ≠ a → b ≠ X.env.locals → s.heap.get? b = some o → h'.get? b = some o)
    (hL : ∃ m, h'.Ns X.env.locals m ∧ ∀ x d, lk σ.loc x = some d → ∃ v, m x = some v ∧ VM σ.mu s.heap v d) (hown : σ.hp a ≠ none ∨ (s.heap.get? a = none))
    (om : (∀ v d, VM σ.mu s.heap v d → VM (S.mu { σ with hp := upd σ.hp a o }) h' v d) → (∀ es fs, Ents σ.mu s.heap es fs → Ents (S.mu { σ with hp := upd σ.hp a o }) h' es fs) → (∀ vs ds, VMs σ.mu s.heap vs ds → VMs (S.mu { σ with hp := upd σ.hp a o }) h' vs ds) → OM (S.mu { σ with hp := upd σ.hp a o }) h' a o) :
    Post X σ s { σ with hp := upd σ.hp a o } { s with heap := h', toks := tk } := by
  obtain ⟨m₀, hn₀, _⟩ := st.names
  obtain ⟨oL, esL, epL, gL, dL, _⟩ := id hn₀
  have hne : ∀ b ob, s.heap.get? b = some ob → ¬ σ.mu b → b ≠ a := fun b ob g nm e => by
    subst e
    rcases hown with q | q
    · exact nm q
    · rw [q] at g; cases g
  have nmu : ∀ b, ¬ σ.mu b → b ≠ a → ¬ S.mu { σ with hp := upd σ.hp a o } b := fun b nm ne q => nm (by
    have : upd σ.hp a o b ≠ none := q
    rwa [upd_ne ne] at this)
  have x : Ext X.env.locals X.prot σ.mu s.heap (S.mu { σ with hp := upd σ.hp a o }) h' := by
    refine ⟨fun b ob g nm q => ⟨k b ob (hne b ob g nm) (fun z => ?_) g, nmu b nm (hne b ob g nm)⟩, fun b ob g nm l q => ⟨nmu b nm (hne b ob g nm), ob.slots, k b ob (hne b ob g nm) l g⟩, fun b hb ob g => ?_⟩
    · rw [z, gL] at g; cases g; rw [dL] at q; exact q
    · have nm := st.protOff b hb
      exact ⟨k b ob (hne b ob g nm) (fun z => ok.locProt (z ▸ hb)) g, nmu b nm (hne b ob g nm)⟩
  have La : X.env.locals ≠ a := hne _ _ gL st.locOff
  have ba : X.base.get? a = none := by
    rcases hown with q | q
    · cases e : σ.hp a with
      | none => exact absurd e q
      | some o' => exact (st.own a o' e).2
    · cases e : X.base.get? a with
      | none => rfl
      | some o' => have := st.base a o' e; rw [q] at this; cases this
  refine ⟨⟨h', tk, rfl⟩, x, ⟨fun b ob e => k b ob (fun z => by rw [z, ba] at e; cases e) (Nat.ne_of_lt (Nat.lt_of_lt_of_le (Heap.lt_size e) ok.above)) (st.base b ob e), ?_, fun b ob e => ?_, nmu _ st.locOff La, fun p hp => ?_, fun e he => ?_⟩⟩
  · obtain ⟨m, hn, hm⟩ := hL
    exact ⟨m, hn, fun y d e => let ⟨v, q, r⟩ := hm y d e; ⟨v, q, r.mono x⟩⟩
  · by_cases z : b = a
    · subst z
      have e' : Mine.upd σ.hp b o b = some ob := e
      rw [upd_self] at e'
      cases e'
      exact ⟨om (fun _ _ q => q.mono x) (fun _ _ q => q.mono x) (fun _ _ q => q.mono x), ba⟩
    · replace e : Mine.upd σ.hp a o b = some ob := e
      rw [upd_ne z] at e
      obtain ⟨y, r⟩ := st.own b ob e
      obtain ⟨oc, g⟩ := y.there
      refine ⟨y.mono x ((k b oc z (fun q => st.locOff (by rw [← q]; show σ.hp b ≠ none; rw [e]; exact Option.some_ne_none ob)) g).trans g.symm), r⟩
  · obtain ⟨z, ob, vs, g, d⟩ := st.prot p hp
    exact ⟨nmu p z (hne p ob g z), ob, vs, k p ob (hne p ob g z) (fun q => ok.locProt (q ▸ hp)) g, d⟩
  · obtain ⟨z, L, ob, es, ep, hf, hn, hm, g, d⟩ := st.frs e he
    by_cases q : L = X.env.locals
    · obtain ⟨m, hnn, _⟩ := hL
      obtain ⟨o', es', ep', g', d', _⟩ := hnn
      exact ⟨z, L, o', es', ep', hf, hn, nmu L hm (hne L ob g hm), q ▸ g', d'⟩
    · exact ⟨z, L, ob, es, ep, hf, hn, nmu L hm (hne L ob g hm), k L ob (hne L ob g hm) q g, d⟩
noncomputable def restOf (base h : Heap) (L a : Addr) : List (Addr × Obj) :=
  (List.range h.objs.size).filterMap fun b => if b = L ∨ b = a ∨ (base.get? b).isSome then none else (h.get? b).map fun o => (b, o)
theorem restOf_mem {base h : Heap} {L a : Addr} {p : Addr × Obj} (hp : p ∈ restOf base h L a) : h.get? p.1 = some p.2 ∧ p.1 ≠ L ∧ p.1 ≠ a ∧ base.get? p.1 = none := by
  obtain ⟨b, _, e⟩ := List.mem_filterMap.mp hp
  split at e
  · cases e
  · rename_i q
    rw [not_or, not_or] at q
    obtain ⟨o, g, rfl⟩ := Option.map_eq_some_iff.mp e
    exact ⟨g, q.1, q.2.1, by simpa using q.2.2⟩
theorem mem_restOf {base h : Heap} {L a b : Addr} {o : Obj} (g : h.get? b = some o) (h1 : b ≠ L) (h2 : b ≠ a) (h3 : base.get? b = none) : (b, o) ∈ restOf base h L a := by
  refine List.mem_filterMap.mpr ⟨b, List.mem_range.mpr (Heap.lt_size g), ?_⟩
  rw [if_neg (by rw [h3]; simp [h1, h2]), g]; rfl
theorem restOf_news {base h : Heap} {L a : Addr} : News base L h (restOf base h L a) := fun p hp =>
  let ⟨g, h1, _, h3⟩ := restOf_mem hp
  ⟨g, h1, h3⟩
theorem kept_of {base h h' : Heap} {L a : Addr} {m : Str → Option Value} (F : Fr base L h' m) (sb : base.StaysIn h) (N : News base L h' (restOf base h L a)) : ∀ b o, b ≠ a → b ≠ L → h.get? b = some o → h'.get? b = some o := fun b o h1 h2 g => by
  cases e : base.get? b with
  | none => exact (N _ (mem_restOf g h2 h1 e)).1
  | some o' =>
    have := sb b o' e
    rw [g] at this
    cases this
    exact F.keep b o e
theorem Ents.getL {mu : Addr → Prop} {h : Heap} {es : List DictEntry} {fs : List (Str × V)} (x : Ents mu h es fs) {name : Str} : (∀ d, lk fs name = some d → ∃ v, PySem.W.getL name es = some (some v) ∧ VM mu h v d) ∧ (lk fs name = none → PySem.W.getL name es = some none) := by
  induction x with
  | nil => exact ⟨fun d e => by simp [lk] at e, fun _ => rfl⟩
  | @cons e es x t d fs hk vm r ih =>
    have ik : e.key.isStr name = (x == name) := by rw [hk]; rfl
    have rk : e.refKey = false := by unfold DictEntry.refKey; rw [hk]
    by_cases q : x = name
    · subst q
      refine ⟨fun d' e' => ⟨e.val, ?_, ?_⟩, fun e' => ?_⟩
      · unfold PySem.W.getL; rw [List.find?_cons, ik]; simp
      · simp [lk, List.lookup] at e'; subst e'; exact vm
      · simp [lk, List.lookup] at e'
    · have q1 : (x == name) = false := by simpa using q
      have q2 : (name == x) = false := by simpa using fun z => q z.symm
      have gl : PySem.W.getL name (e :: es) = PySem.W.getL name es := by
        unfold PySem.W.getL; rw [List.find?_cons, ik, q1]; simp [rk]
      have ll : lk ((x, d) :: fs) name = lk fs name := by unfold lk; rw [List.lookup_cons, q2]
      rw [gl, ll]; exact ih
noncomputable def updF : List (Str × V) → Str → V → List (Str × V)
  | [], x, d => [(x, d)]
  | (y, e) :: r, x, d => if y == x then (y, d) :: r else (y, e) :: updF r x d
theorem Ents.put {mu : Addr → Prop} {h : Heap} {es : List DictEntry} {fs : List (Str × V)} (x : Ents mu h es fs) {name : Str} {hs : Int} {tk : Tok} {v : Value} {d : V} (vm : VM mu h v d) : Ents mu h (putL name hs (.str name tk) v es) (updF fs name d) := by
  induction x with
  | nil => exact .cons rfl vm .nil
  | @cons e es x t d' fs hk vm' r ih =>
    have ik : e.key.isStr name = (x == name) := by rw [hk]; rfl
    unfold putL updF
    rw [ik]
    split
    · exact .cons hk vm r
    · exact .cons hk vm' ih
theorem Ents.length {mu : Addr → Prop} {h : Heap} {es : List DictEntry} {fs : List (Str × V)} (x : Ents mu h es fs) : es.length = fs.length := by
  induction x with
  | nil => rfl
  | cons _ _ _ ih => simp [ih]
theorem updF_length (fs : List (Str × V)) (x : Str) (d : V) : (updF fs x d).length ≤ fs.length + 1 := by
  induction fs with
  | nil => simp [updF]
  | cons p r ih => obtain ⟨y, e⟩ := p; unfold updF; split <;> simp <;> omega
structure KGet (K : Frag) (C : Addr) (name : Str) : Prop where
  get : plainGet K C name = true
  dict : hasDictIn K C = true
  cls : ∃ attr, findIn K (.ref C) name = some attr ∧ noGet K attr = true
structure KSet (K : Frag) (C : Addr) (name : Str) : Prop where
  set : findIn K (.ref C) "__setattr__" = some (some (.builtin "object.__setattr__"))
  plain : plainOver K C = true
  taker : takerIn K C name = some none
  dict : hasDictIn K C = true
structure KMeth (K : Frag) (C : Addr) (name : Str) (f : Addr) : Prop where
  get : plainGet K C name = true
  cls : findIn K (.ref C) name = some (some (.ref f))
  fn : isFn K (.ref f) = true
  keep : keepIn K (.ref f) = true
theorem VM.handed {mu : Addr → Prop} {h : Heap} {v : Value} {d : V} (x : VM mu h v d) (hd : ∀ w, d ≠ .lit w) : handedIn v = true := by
  cases x <;> first | rfl | exact absurd rfl (hd _)
theorem inst_at {a C dx : Addr} {fs : List (Str × V)} {h : Heap} (st : St X σ h) (h1 : σ.hp a = some (.inst C dx)) (h2 : σ.hp dx = some (.dict fs)) : ∃ es k, InstAt h a (instObj C dx) C (some (dictOf es k)) ∧ Ents σ.mu h es fs ∧ es.length ≤ 100 := by
  obtain ⟨g1, _⟩ := st.own a _ h1
  obtain ⟨⟨es, k, g2, en, hl⟩, _⟩ := st.own dx _ h2
  exact ⟨es, k, ⟨g1, rfl, rfl, g2⟩, en, hl⟩
theorem get_field {a C dx : Addr} {fs : List (Str × V)} {name : Str} {d : V} {ex : Bool} {Q : V → S → Prop} (ok : Ok X n) (h1 : σ.hp a = some (.inst C dx)) (h2 : σ.hp dx = some (.dict fs)) (kg : KGet X.K C name)
    (hd : lk fs name = some d) (hl : ∀ w, d ≠ .lit w) (q : Q d σ) : Op1 X (fun v => getAttr v name ex) (.ref a) σ Q E := by
  intro v s st vm
  obtain rfl := vm.refI
  obtain ⟨m, F, _⟩ := st.fr ok
  obtain ⟨es, k, I, en, _⟩ := inst_at st h1 h2
  obtain ⟨w, e, wm⟩ := en.getL.1 d hd
  obtain ⟨attr, c1, c2⟩ := kg.cls
  exact get_own F ok.inK I kg.get kg.dict c1 c2 e (wm.handed hl) (qw_same st _ wm q)
theorem W_Attr {x attr : Str} {xp pos : Pos} {Q : V → S → Prop} (h : WE X (.Name x xp) σ (fun a σ₁ => Op1 X (fun v => getAttr v attr true) a σ₁ Q E) E) : WE X (.Attribute (.Name x xp) attr pos) σ Q E := fun _ st =>
  Attribute_name (h.run (Post.refl st) fun _ _ _ _ _ P₁ va h₁ => h₁.go P₁ va)
theorem set_field {a C dx : Addr} {fs : List (Str × V)} {name : Str} {d : V} {Q : Unit → S → Prop} (ok : Ok X n) (h1 : σ.hp a = some (.inst C dx)) (h2 : σ.hp dx = some (.dict fs)) (ks : KSet X.K C name)
    (hlen : fs.length ≤ 90) (q : Q () { σ with hp := upd σ.hp dx (.dict (updF fs name d)) }) {σ₀ : S} {s₀ s : Shared} (P : Post X σ₀ s₀ σ s) {v : Value} (vm : VM σ.mu s.heap v d) :
    wpAny (model X.prog X.w) X.A (setAttr (.ref a) name v) (Qw X σ₀ s₀ RU Q) (Ew X σ₀ s₀ E) s := by
  have st := P.st
  obtain ⟨m, F, hm⟩ := st.fr ok
  obtain ⟨es, k, I, en, _⟩ := inst_at st h1 h2
  have hl : (PySem.W.getL name es).isSome = true := by
    cases e : lk fs name with
    | none => rw [en.getL.2 e]; rfl
    | some d' => obtain ⟨w, e', _⟩ := en.getL.1 d' e; rw [e']; rfl
  obtain ⟨⟨es₂, k₂, g2, _⟩, nb⟩ := st.own dx _ h2
  have g2' : s.heap.get? dx = some (dictOf es k) := I.dict
  have dL : dx ≠ X.env.locals := fun e => st.locOff (by rw [← e]; show σ.hp dx ≠ none; rw [h2]; exact Option.some_ne_none _)
  have N : News X.base X.env.locals s.heap ((dx, dictOf es k) :: restOf X.base s.heap X.env.locals dx) := fun p hp => by
    rcases List.mem_cons.mp hp with rfl | hp
    · exact ⟨g2', dL, nb⟩
    · exact restOf_news p hp
  have el := en.length
  have en' := en.put (name := name) (hs := PyData.keyHash X.w.params name) (tk := s.toks + 1) vm
  have el' := en'.length
  have ul := updF_length fs name d
  refine set_dict F ok.inK N I rfl ks.set ks.plain ks.taker ks.dict hl rfl (Upd.head fun p hp => (restOf_mem hp).2.2.1) (by omega) fun h' F' N' => ?_
  refine ⟨(), _, P.trans (post_write ok st (kept_of F' st.base (fun p hp => N' p (.tail _ hp))) ⟨m, F'.ns, hm⟩ (.inl (by rw [h2]; exact Option.some_ne_none _)) fun _ me _ => ?_), trivial, q⟩
  exact ⟨_, _, (N' _ (.head _)).1, me _ _ en', by omega⟩
end
end Mine
namespace Mine
open PySem PySem.W PySem.Calls PySem.Spec PyProof.Rows
section
variable {X : Cx} {n : Nat} {σ : S} {E : Value → S → Prop}
noncomputable def Cx.frs (X : Cx) : List Addr := (X.fenv :: X.outer).filterMap (·.frame)
theorem frs_of {h : Heap} (st : St X σ h) {b : Addr} (hb : b ∈ X.frs) : X.base.get? b = none ∧ ¬ σ.mu b ∧ ∃ o es ep, h.get? b = some o ∧ o.data = .dict es ep := by
  obtain ⟨e, he, hf⟩ := List.mem_filterMap.mp hb
  obtain ⟨_, L, o, es, ep, hf', hn, hm, g, d⟩ := st.frs e he
  rw [hf'] at hf
  cases hf
  exact ⟨hn, hm, o, es, ep, g, d⟩
theorem post_slots {s : Shared} {h' : Heap} {tk : Nat} {bad : List Addr} (st : St X σ s.heap) (k1 : ∀ b o, s.heap.get? b = some o → b ∉ X.frs → b ∉ bad → h'.get? b = some o) (k2 : s.heap.UpToSlots h')
    (hb : ∀ b ∈ bad, (X.base.get? b = none ∧ ¬ σ.mu b) ∧ b ∉ X.prot ∧ ∃ o vs, s.heap.get? b = some o ∧ o.data = .fields vs) : Post X σ s σ { s with heap := h', toks := tk } := by
  have nf : ∀ b o, s.heap.get? b = some o → (∀ es ep, o.data ≠ .dict es ep) → b ∉ X.frs := fun b o g q hm => by
    obtain ⟨_, _, o', es, ep, g', d⟩ := frs_of st hm
    rw [g] at g'; cases g'; exact q _ _ d
  have nb : ∀ b o, s.heap.get? b = some o → (∀ vs, o.data ≠ .fields vs) → b ∉ bad := fun b o g q hm => by
    obtain ⟨_, _, o', vs, g', d⟩ := hb b hm
    rw [g] at g'; cases g'; exact q _ d
  have x : Ext X.env.locals X.prot σ.mu s.heap σ.mu h' := by
    refine ⟨fun a o g nm q => ⟨k1 a o g (nf a o g ?_) (nb a o g ?_), nm⟩, fun a o g nm _ q => ⟨nm, k2 a o g q⟩, fun a ha o g => ?_⟩
    · intro es ep d; rw [d] at q; exact q
    · intro vs d; rw [d] at q; exact q
    · obtain ⟨z, o', vs, g', d, _⟩ := st.prot a ha
      rw [g] at g'; cases g'
      exact ⟨k1 a o g (nf a o g fun es ep d' => by rw [d] at d'; cases d') (fun hm => (hb a hm).2.1 ha), z⟩
  refine ⟨⟨h', tk, rfl⟩, x, ⟨fun b o e => k1 b o (st.base b o e) (fun hm => ?_) (fun hm => ?_), ?_, fun a o e => ?_, st.locOff, fun a ha => ?_, fun e he => ?_⟩⟩
  · have := (frs_of st hm).1; rw [e] at this; cases this
  · have := (hb b hm).1.1; rw [e] at this; cases this
  · obtain ⟨m, hn, hm⟩ := st.names
    exact ⟨m, k2.ns hn, fun y d e => let ⟨v, q, r⟩ := hm y d e; ⟨v, q, r.mono x⟩⟩
  · obtain ⟨y, z⟩ := st.own a o e
    obtain ⟨ob, g⟩ := y.there
    exact ⟨y.mono x ((k1 a ob g (fun hm => (frs_of st hm).2.1 (by show σ.hp a ≠ none; rw [e]; exact Option.some_ne_none _)) (fun hm => (hb a hm).1.2 (by show σ.hp a ≠ none; rw [e]; exact Option.some_ne_none _))).trans g.symm), z⟩
  · obtain ⟨z, o', vs, g', d⟩ := st.prot a ha
    exact ⟨z, o', vs, (x.watch a ha o' g').1, d⟩
  · obtain ⟨z, L, o, es, ep, hf, hn, hm, g, d⟩ := st.frs e he
    obtain ⟨sl, g'⟩ := k2 L o g fun vs q => by rw [d] at q; cases q
    exact ⟨z, L, _, es, ep, hf, hn, hm, g', d⟩
noncomputable def ExcTb (X : Cx) (mu : Addr → Prop) (h : Heap) (e : Addr) (cls fl : Value) : Prop :=
  (X.base.get? e = none ∧ ¬ mu e) ∧ e ∉ X.prot ∧ ∃ oe vs a0 T oT ts, h.get? e = some oe ∧ oe.cls = cls ∧ oe.data = .fields vs ∧ (vs[0]? = some a0 ∧ Ctx0 cls vs) ∧ vs[1]? = some (.ref T) ∧ (X.base.get? T = none ∧ ¬ mu T) ∧ T ∉ X.prot ∧ T ≠ e ∧
    h.get? T = some oT ∧ oT.data = .fields ts ∧ ts[3]? = some fl
theorem ExcTb.own {mu : Addr → Prop} {h : Heap} {e : Addr} {cls : Value} (x : ExcTb X mu h e cls (rawInt X.L)) : ExcAt X mu h e cls := by
  obtain ⟨a, b, oe, vs, a0, T, oT, ts, g, c, d, v0, v1, bT, pT, ne, gT, dT, v3⟩ := x
  exact ⟨a, b, oe, vs, a0, g, c, d, v0, .inr ⟨T, oT, ts, v1, bT, pT, ne, gT, dT, .inr v3⟩⟩
theorem set_flight {s : Shared} {e : Addr} {cls fl : Value} {fr : Option Addr} {Q : Unit → Shared → Prop} {E' : Value → Shared → Prop} {A : Around} (st : St X σ s.heap) (x : ExcTb X σ.mu s.heap e cls fl)
    (h : ∀ h', Post X σ s σ { s with heap := h' } → ExcTb X σ.mu h' e cls (fr.elim .none fun f => rawInt f) → Q () { s with heap := h' }) : wpAny (model X.prog X.w) A (setFlight (.ref e) fr) Q E' s := by
  obtain ⟨be, pe, oe, vs, a0, T, oT, ts, g, c, d, v0, v1, bT, pT, ne, gT, dT, v3⟩ := x
  have hsz3 : 3 < ts.size := (Array.getElem?_eq_some_iff.mp v3).1
  have other : ∀ b, b ≠ T → (s.heap.update T (Obj.mapFields (·.setIfInBounds 3 (fr.elim Value.none fun f => rawInt f)))).get? b = s.heap.get? b :=
    fun b hb => Heap.get?_update_other _ _ (Ne.symm hb)
  unfold setFlight
  refine wpAny_bind (wpAny_field g d v1 ?_)
  rw [if_pos (show (Value.ref T != Value.none) = true from by simp)]
  refine wpAny_setField gT dT hsz3 (h _ ?_ ?_)
  · refine post_slots (bad := [T]) st (fun b o g' _ nb => (other b fun q => nb (by simp [q])).trans g') (fun b o g' nf => ⟨o.slots, (other b fun q => ?_).trans g'⟩) fun b hb => ?_
    · rw [q, gT] at g'; cases g'; exact nf _ dT
    · rw [List.mem_singleton.mp hb]; exact ⟨bT, pT, oT, ts, gT, dT⟩
  · exact ⟨be, pe, oe, vs, a0, T, _, _, (other e (Ne.symm ne)).trans g, c, d, v0, v1, bT, pT, ne, Heap.get?_update_self _ gT (Obj.isFreed_of_fields (Obj.data_mapFields dT _)), Obj.data_mapFields dT _, by simp [hsz3]⟩
theorem entry_new {s : Shared} {e : Addr} {oe : Obj} {vs : Array Value} {head : Value} {hadNext : Bool} {Q : Unit → Shared → Prop} {E' : Value → Shared → Prop} {A : Around} (ok : Ok X n) (st : St X σ s.heap) (hA : A.frames = some (X.fenv :: X.outer))
    (he : s.heap.get? e = some oe) (hd : oe.data = .fields vs) (hsz : 1 < vs.size)
    (h : ∀ h' T ts, (∀ b o, b ≠ e → b ∉ X.frs → s.heap.get? b = some o → h'.get? b = some o) → s.heap.UpToSlots h' → s.heap.get? T = none → T ≠ e → h'.get? e = some (oe.mapFields (·.setIfInBounds 1 (.ref T))) →
      (∃ oT, h'.get? T = some oT ∧ oT.data = .fields ts) → ts[3]? = some (rawInt X.L) → Q () { s with heap := h' }) :
    wpAny (model X.prog X.w) A (do let a ← frameOf X.fenv; let pl ← entryPlaceOf X.L hadNext; let b ← EntryCells.newEntry head a .none (rawInt X.L) .none pl; setField (.ref e) 1 b) Q E' s := by
  have hl := funs_of st.frs
  have hene : e ∉ X.frs := fun hm => by
    obtain ⟨_, _, o', es, ep, g', d'⟩ := frs_of st hm
    rw [he] at g'; cases g'; rw [hd] at d'; cases d'
  refine wpAny_bind (wpAny_frameOf_fun hA hl ok.frame fun h₁ hs₁ => ?_)
  refine wpAny_bind (wpAny_entryPlaceOf fun pl hpl => ?_)
  unfold EntryCells.newEntry newFields
  refine wpAny_bind (wpAny_newObj_type ?_ (hpl.sizeOk5 _ _ _ _ _))
  generalize hts : ([head, .ref X.L, .none, rawInt X.L, .none] ++ (if pl.isEmpty then List.replicate 6 Value.none else pl)).toArray = ts
  have he₁ : h₁.get? e = some oe := (hs₁.2.1 e hene).trans he
  have he₂ := Heap.get?_push_of_some (h := h₁) { cls := .type "traceback", dict := none, data := .fields ts } he₁
  have hTe : h₁.objs.size ≠ e := Nat.ne_of_gt (Heap.lt_size he₁)
  have hd₃ := Obj.data_mapFields hd (·.setIfInBounds 1 (Value.ref h₁.objs.size))
  have keep : ∀ b o, b ≠ e → h₁.get? b = some o → ((h₁.push { cls := .type "traceback", dict := none, data := .fields ts }).update e (Obj.mapFields (·.setIfInBounds 1 (Value.ref h₁.objs.size)))).get? b = some o := fun b o hbe hb => by
    rw [Heap.get?_update_other _ _ (Ne.symm hbe)]
    exact Heap.get?_push_of_some _ hb
  refine wpAny_setField he₂ hd hsz (h _ h₁.objs.size ts (fun b o ne nf g => keep b o ne ((hs₁.2.1 b nf).trans g)) (fun b o g nf => ?_) ?_ hTe ?_ ⟨{ cls := .type "traceback", dict := none, data := .fields ts }, ?_, rfl⟩ ?_)
  · obtain ⟨sl, g'⟩ := hs₁.2.2 b o g
    exact ⟨sl, keep b _ (fun q => by rw [q, he] at g; cases g; exact nf _ hd) g'⟩
  · rw [hs₁.1]; exact Heap.get?_none_of_le (Nat.le_refl _)
  · exact Heap.get?_update_self _ he₂ (Obj.isFreed_of_fields hd₃)
  · exact (Heap.get?_update_other _ _ (Ne.symm hTe)).trans (Heap.get?_push_size h₁ rfl)
  · rw [← hts]; simp
theorem note_any {s : Shared} {e : Addr} {cls : Value} {Q : Unit → Shared → Prop} {E' : Value → Shared → Prop} (ok : Ok X n) (he : X.env = X.fenv) (st : St X σ s.heap) (x : ExcAt X σ.mu s.heap e cls)
    (h : ∀ h', Post X σ s σ { s with heap := h' } → ExcTb X σ.mu h' e cls (rawInt X.L) → Q () { s with heap := h' }) {A : Around} (hA : A.frames = some (X.fenv :: X.outer)) : wpAny (model X.prog X.w) A (noteFrame (.ref e) X.env) Q E' s := by
  obtain ⟨be, pe, oe, vs, a0, g, c, d, ⟨v0, c0⟩, hx⟩ := x
  rw [he]
  have fin : ∀ (s₁ : Shared), Post X σ s σ s₁ → s₁.heap.get? e = some oe → ∀ h' T ts, (∀ b o, b ≠ e → b ∉ X.frs → s₁.heap.get? b = some o → h'.get? b = some o) → s₁.heap.UpToSlots h' → s₁.heap.get? T = none → T ≠ e →
      h'.get? e = some (oe.mapFields (·.setIfInBounds 1 (.ref T))) → (∃ oT, h'.get? T = some oT ∧ oT.data = .fields ts) → ts[3]? = some (rawInt X.L) → 1 < vs.size → Post X σ s σ { s₁ with heap := h' } ∧ ExcTb X σ.mu h' e cls (rawInt X.L) := by
    intro s₁ P₁ g₁ h' T ts k1 k2 gT hTe ge ⟨oT, gT', dT⟩ t3 hsz
    refine ⟨P₁.trans (post_slots (bad := [e]) P₁.st (fun b o gb n1 n2 => k1 b o (fun q => n2 (by simp [q])) n1 gb) k2 fun b hb => by rw [List.mem_singleton.mp hb]; exact ⟨be, pe, oe, vs, g₁, d⟩), ?_⟩
    refine ⟨be, pe, _, _, a0, T, oT, ts, ge, (Obj.cls_mapFields _ _).trans c, Obj.data_mapFields d _, ⟨by rw [Array.getElem?_setIfInBounds_ne (by decide)]; exact v0, fun q => by rw [Array.getElem?_setIfInBounds_ne (by decide)]; exact c0 q⟩, by simp [hsz], ?_, fun hp => ?_, hTe, gT', dT, t3⟩
    · refine ⟨?_, fun hm => ?_⟩
      · cases q : X.base.get? T with
        | none => rfl
        | some o => have := P₁.st.base T o q; rw [gT] at this; cases this
      · cases q : σ.hp T with
        | none => exact hm q
        | some o =>
          obtain ⟨ob, g⟩ := (P₁.st.own T o q).1.there
          rw [gT] at g; cases g
    · obtain ⟨_, o, ws, gp, _⟩ := P₁.st.prot T hp
      rw [gT] at gp; cases gp
  rcases hx with v1 | ⟨T, oT, ts, v1, bT, pT, ne, gT, dT, v3 | v3⟩
  · have hsz := (Array.getElem?_eq_some_iff.mp v1).1
    unfold noteFrame
    simp only [ok.frame]
    refine wpAny_bind (wpAny_field g d v1 ?_)
    rw [if_neg (by decide)]
    refine entry_new ok st hA g d hsz fun h' T ts k1 k2 gT hTe ge gT' t3 => ?_
    obtain ⟨P, x⟩ := fin s (Post.refl st) g h' T ts k1 k2 gT hTe ge gT' t3 hsz
    exact h h' P x
  · have hsz := (Array.getElem?_eq_some_iff.mp v1).1
    unfold noteFrame
    simp only [ok.frame]
    refine wpAny_bind (wpAny_field g d v1 ?_)
    rw [if_pos (show (Value.ref T != Value.none) = true from by simp)]
    refine wpAny_bind (wpAny_field gT dT v3 ?_)
    rw [if_neg (show ¬ ((Value.none == rawInt X.L) = true) from by simp [rawInt])]
    have other : ∀ b, b ≠ T → (s.heap.update T (Obj.mapFields (·.setIfInBounds 3 Value.none))).get? b = s.heap.get? b := fun b hb => Heap.get?_update_other _ _ (Ne.symm hb)
    refine wpAny_bind (wpAny_setField gT dT (Array.getElem?_eq_some_iff.mp v3).1 ?_)
    have P₁ : Post X σ s σ { s with heap := s.heap.update T (Obj.mapFields (·.setIfInBounds 3 Value.none)) } :=
      post_slots (tk := s.toks) (bad := [T]) st (fun b o g' _ nb => (other b fun q => nb (by simp [q])).trans g') (fun b o g' nf => ⟨o.slots, (other b fun q => by rw [q, gT] at g'; cases g'; exact nf _ dT).trans g'⟩) fun b hb => by
        rw [List.mem_singleton.mp hb]; exact ⟨bT, pT, oT, ts, gT, dT⟩
    have g₁ := (other e (Ne.symm ne)).trans g
    refine entry_new ok P₁.st hA g₁ d hsz fun h' T' ts' k1 k2 gT₂ hTe ge gT' t3 => ?_
    obtain ⟨P, x⟩ := fin _ P₁ g₁ h' T' ts' k1 k2 gT₂ hTe ge gT' t3 hsz
    exact h h' P x
  · refine wpAny_noteFrame_againW (base := X.base) (cls := cls) (a0 := a0) ok.frame ⟨oe, vs, T, oT, ts, g, ⟨c, v0⟩, d, v1, bT.1, ne, gT, dT, v3⟩ ?_
    exact h s.heap ⟨⟨s.heap, s.toks, rfl⟩, Ext.refl _ _ _ _ st.protOff, st⟩ ⟨be, pe, oe, vs, a0, T, oT, ts, g, c, d, ⟨v0, c0⟩, v1, bT, pT, ne, gT, dT, v3⟩
theorem leave_any {s : Shared} {e : Addr} {cls : Value} {Q : Unit → Shared → Prop} {E' : Value → Shared → Prop} (ok : Ok X n) (he : X.env = X.fenv) (st : St X σ s.heap) (x : ExcAt X σ.mu s.heap e cls)
    (h : ∀ h', Post X σ s σ { s with heap := h' } → ExcTb X σ.mu h' e cls .none → Q () { s with heap := h' }) : wpAny (model X.prog X.w) X.A (leaving X.env (.ref e)) Q E' s := by
  unfold leaving
  refine wpAny_bind (note_any ok he st x (fun h₁ P₁ x₁ => ?_) ok.frames)
  exact set_flight (fr := none) P₁.st x₁ fun h₂ P₂ x₂ => h h₂ (P₁.trans P₂) x₂
end
end Mine
namespace Mine
open PySem PySem.W PySem.Calls PySem.Spec PyProof.Rows
section
variable {X : Cx} {n : Nat} {σ : S} {E : Value → S → Prop}
noncomputable def Cx.into (X : Cx) (A' : Around) (fd : FuncData) (f L : Addr) : Cx :=
  { X with A := A'.deeper (callEnv fd L f), env := callEnv fd L f, fenv := callEnv fd L f, L := L, outer := X.fenv :: X.outer }
structure FnIs (K : Frag) (f : Addr) (fd : FuncData) (body : List Stmt) : Prop where
  at_ : ∃ oc od osl, K.lookup f = some ⟨oc, od, .func fd, osl⟩
  code : codeIn K fd.code fd.qualname = true
  body : fd.body = .stmts body
  glob : fd.globals = mainGlobals
  bult : fd.builtins = builtinsNs
  kind : fd.scope.kind = .function
  co : fd.scope.isCoroutine = false
  gen : fd.scope.isGenerator = false
  cell : ∀ x ∈ fd.scope.names, x.2 ≠ .cell
structure Under (X : Cx) (A' : Around) : Prop where
  frames : A'.frames = X.A.frames
  depth : A'.depth ≤ X.A.depth + 1
  units : A'.units ≤ X.A.units + 10
  handled : A'.handled = X.A.handled
theorem Under.self : Under X X.A := ⟨rfl, Nat.le_succ _, Nat.le_add_right _ _, rfl⟩
theorem ok_into {A' : Around} {fd : FuncData} {f L : Addr} {body : List Stmt} (ok : Ok X (n + 1)) (hf : FnIs X.K f fd body) (hA : Under X A') (hL : X.base.objs.size ≤ L) (hp : L ∉ X.prot) : Ok (X.into A' fd f L) n where
  inK := ok.inK
  top := ok.top
  frames := Around.frames_deeper (hA.frames.trans ok.frames)
  frame := rfl
  eframe := rfl
  kind := hf.kind
  genv := hf.glob
  benv := hf.bult
  above := hL
  locProt := hp
  handled := hA.handled.trans ok.handled
  ctxIn := ok.ctxIn
  depth := by
    have := ok.depth
    have := hA.depth
    show A'.depth + 1 + 2 * n + 8 < _
    omega
  units := by
    have := ok.units
    have := hA.units
    show A'.units + 3 + 20 * n + 300 < _
    omega
theorem enter {A' : Around} {fd : FuncData} {f : Addr} {body : List Stmt} {s : Shared} {h₀ : Heap} {m : Str → Option Value} {loc0 : List (Str × V)} (hf : FnIs X.K f fd body) (st : St X σ s.heap) (hn : h₀.Ns s.heap.objs.size m) (k : ∀ b o, s.heap.get? b = some o → h₀.get? b = some o)
    (hm : ∀ x d, lk loc0 x = some d → ∃ v, m x = some v ∧ VM σ.mu s.heap v d) : St (X.into A' fd f s.heap.objs.size) ⟨loc0, σ.hp⟩ h₀ := by
  have x : Ext X.env.locals X.prot σ.mu s.heap σ.mu h₀ := Ext.keeps st.protOff k
  have bn : X.base.get? s.heap.objs.size = none := by
    cases q : X.base.get? s.heap.objs.size with
    | none => rfl
    | some o => exact absurd (Heap.lt_size (st.base _ o q)) (Nat.lt_irrefl _)
  refine ⟨fun b o e => k b o (st.base b o e), ⟨m, hn, fun y d e => let ⟨v, q, r⟩ := hm y d e; ⟨v, q, r.mono x⟩⟩, fun a o e => ?_, new_off (σ := σ) st, fun a ha => ?_, fun e he => ?_⟩
  · obtain ⟨y, z⟩ := st.own a o e
    obtain ⟨ob, g⟩ := y.there
    exact ⟨y.mono x ((k a ob g).trans g.symm), z⟩
  · obtain ⟨z, o, vs, g, d⟩ := st.prot a ha
    exact ⟨z, o, vs, k a o g, d⟩
  · rcases List.mem_cons.mp he with rfl | he
    · obtain ⟨o, es, ep, g, d, _⟩ := hn
      exact ⟨by show fd.scope.kind ≠ .module; rw [hf.kind]; decide, _, o, es, ep, rfl, bn, new_off (σ := σ) st, g, d⟩
    · obtain ⟨z, L, o, es, ep, hfr, hb, hmu, g, d⟩ := st.frs e he
      exact ⟨z, L, o, es, ep, hfr, hb, hmu, k L o g, d⟩
theorem post_back {A' : Around} {fd : FuncData} {f : Addr} {s s' : Shared} {h₀ : Heap} {loc0 : List (Str × V)} {tk : Nat} {σ' : S} (st : St X σ s.heap) (k : ∀ b o, s.heap.get? b = some o → h₀.get? b = some o)
    (P : Post (X.into A' fd f s.heap.objs.size) ⟨loc0, σ.hp⟩ { s with heap := h₀, toks := tk } σ' s') : Post X σ s ⟨σ.loc, σ'.hp⟩ s' := by
  obtain ⟨h', tk', e⟩ := P.upd
  have lt : ∀ a o, s.heap.get? a = some o → a ≠ s.heap.objs.size := fun a o g => Nat.ne_of_lt (Heap.lt_size g)
  have x : Ext X.env.locals X.prot σ.mu s.heap σ'.mu s'.heap := ⟨fun a o g nm q => P.ext.seq a o (k a o g) nm q, fun a o g nm l q => P.ext.obj a o (k a o g) nm (lt a o g) q, fun a ha o g => P.ext.watch a ha o (k a o g)⟩
  refine ⟨⟨h', tk', e⟩, x, ⟨P.st.base, ?_, P.st.own, ?_, P.st.prot, fun e he => P.st.frs e (.tail _ he)⟩⟩
  · obtain ⟨m, hn, hm⟩ := st.names
    obtain ⟨o, es, ep, g, d, r⟩ := hn
    obtain ⟨_, sl, g'⟩ := P.ext.obj _ o (k _ o g) st.locOff (lt _ o g) fun vs q => by rw [d] at q; cases q
    exact ⟨m, ⟨_, es, ep, g', d, r⟩, fun y d e => let ⟨v, q, r⟩ := hm y d e; ⟨v, q, r.mono x⟩⟩
  · obtain ⟨m, ⟨o, es, ep, g, d, r⟩, hm⟩ := st.names
    exact (P.ext.obj _ o (k _ o g) st.locOff (lt _ o g) fun vs q => by rw [d] at q; cases q).1
noncomputable def retV : FV → V
  | .ret d => d
  | _ => .none
theorem code_fn {fd : FuncData} {f : Addr} {body : List Stmt} {A' : Around} {R : Result → Shared → Prop} {s : Shared} {args : Args} {binds : List (Str × Value)} {loc0 : List (Str × V)} {Qb : FV → S → Prop} {Eb : Value → S → Prop}
    (ok : Ok X (n + 1)) (hf : FnIs X.K f fd body) (hA : Under X A') (st : St X σ s.heap) (hb : BindsTo s fd args binds) (hl : ∀ y ∈ binds, fd.scope.names.lookup y.1 = some .local)
    (hm : ∀ x d, lk loc0 x = some d → ∃ v, binds.reverse.lookup x = some v ∧ VM σ.mu s.heap v d)
    (h : ∀ L, Ok (X.into A' fd f L) n → WXs (X.into A' fd f L) body ⟨loc0, σ.hp⟩ Qb Eb)
    (ret : ∀ v s' fl σ', Post X σ s ⟨σ.loc, σ'.hp⟩ s' → VM σ'.mu s'.heap v (retV fl) → Qb fl σ' → R (.ok (.ret v)) s')
    (exc : ∀ e s' cls σ', Post X σ s ⟨σ.loc, σ'.hp⟩ s' → ExcAt X σ'.mu s'.heap e cls → Eb cls σ' → R (.error (.ref e)) s') : codeAny (model X.prog X.w) A' (.call (.ref f) args) R s := by
  obtain ⟨oc, od, osl, hat⟩ := hf.at_
  have inK := ok.inK.keeps st.base
  have hroom : A'.depth < recursionLimit := by have := ok.depth; have := hA.depth; omega
  refine codeAny_call_def (fd := fd) (body := body) (binds := binds) hroom (inK _ _ hat) rfl (ok.top.nolimit.keeps st.base) (codeRec_of inK hf.code) hf.body hb hf.cell hl (fun h₀ hn hk => ?_) hf.co hf.gen hf.kind
  have bL : X.base.objs.size ≤ s.heap.objs.size := by
    obtain ⟨m, hn, _⟩ := st.names
    exact Nat.le_trans ok.above (Nat.le_of_lt hn.lt)
  have pL : s.heap.objs.size ∉ X.prot := fun hp => by
    obtain ⟨_, o, vs, g, _⟩ := st.prot _ hp
    exact absurd (Heap.lt_size g) (Nat.lt_irrefl _)
  have ok' := ok_into (L := s.heap.objs.size) ok hf hA bL pL
  have st' := enter (A' := A') hf st hn hk hm
  refine wpAny_mono (h s.heap.objs.size ok' _ st') (fun fl s' q => ?_) fun e s' q => ?_
  · obtain ⟨g, σ', P, r, q⟩ := q
    have P' := post_back st hk P
    refine ret _ s' g σ' P' ?_ q
    cases fl <;> cases g <;> first | exact r.elim | exact VM.none | exact r
  · obtain ⟨ea, cls, σ', P, rfl, x, q⟩ := q
    refine leave_any ok' rfl P.st x fun h' P₂ x₂ => ?_
    have P' := post_back st hk (P.trans P₂)
    refine exc ea _ cls σ' P' ?_ q
    obtain ⟨a, b, oe, vs, a0, T, oT, ts, g, c, d, v0, v1, bT, pT, ne, gT, dT, v3⟩ := x₂
    exact ⟨a, b, oe, vs, a0, g, c, d, v0, .inr ⟨T, oT, ts, v1, bT, pT, ne, gT, dT, .inl v3⟩⟩
noncomputable def Call (X : Cx) (f : Value) (ds : List V) (σ : S) (Q : V → S → Prop) (E : Value → S → Prop) : Prop :=
  ∀ vs s, St X σ s.heap → VMs σ.mu s.heap vs ds → wpAny (model X.prog X.w) X.A (call f vs) (Qw X σ s VM Q) (Ew X σ s E) s
theorem Call.fn {fd : FuncData} {f : Addr} {body : List Stmt} {ds : List V} {loc0 : List (Str × V)} {Q : V → S → Prop} (ok : Ok X (n + 1)) (hf : FnIs X.K f fd body)
    (hb : ∀ vs s, St X σ s.heap → VMs σ.mu s.heap vs ds → ∃ binds, BindsTo s fd ⟨vs, []⟩ binds ∧ (∀ y ∈ binds, fd.scope.names.lookup y.1 = some .local) ∧ (∀ x d, lk loc0 x = some d → ∃ v, binds.reverse.lookup x = some v ∧ VM σ.mu s.heap v d))
    (h : ∀ L, Ok (X.into X.A fd f L) n → WXs (X.into X.A fd f L) body ⟨loc0, σ.hp⟩ (fun fl σ' => Q (retV fl) ⟨σ.loc, σ'.hp⟩) (fun c σ' => E c ⟨σ.loc, σ'.hp⟩)) : Call X (.ref f) ds σ Q E := by
  intro vs s st vm
  obtain ⟨binds, h1, h2, h3⟩ := hb vs s st vm
  refine wpAny_call (code_fn ok hf Under.self st h1 h2 h3 h (fun v s' fl σ' P r q => ?_) fun e s' cls σ' P x q => ?_)
  · exact ⟨retV fl, _, P, r, q⟩
  · exact ⟨e, cls, _, P, rfl, x, q⟩
theorem binds_place {fd : FuncData} {names : List Str} {ds : List V} {mu : Addr → Prop} {s : Shared} (hb : ∀ vs : List Value, vs.length = names.length → BindsTo s fd ⟨vs, []⟩ (names.zip vs)) (hl : (names.all fun x => fd.scope.names.lookup x == some .local) = true) (hn : names.Nodup) (hlen : ds.length = names.length)
    {vs : List Value} (vm : VMs mu s.heap vs ds) : ∃ binds, BindsTo s fd ⟨vs, []⟩ binds ∧ (∀ y ∈ binds, fd.scope.names.lookup y.1 = some .local) ∧ (∀ x d, lk (names.zip ds) x = some d → ∃ v, binds.reverse.lookup x = some v ∧ VM mu s.heap v d) := by
  refine ⟨names.zip vs, hb vs (vm.length.trans hlen), fun y hy => ?_, fun x d e => ?_⟩
  · have := List.all_eq_true.mp hl y.1 (List.of_mem_zip hy).1
    simpa using this
  · have rev : ∀ (l : List (Str × Value)), (l.map (·.1)).Nodup → ∀ x v, (x, v) ∈ l → l.reverse.lookup x = some v := by
      intro l hnd x v hm
      have hnd' : ((l.reverse).map (·.1)).Nodup := by rw [List.map_reverse]; exact (List.reverse_perm _).nodup_iff.mpr hnd
      have hm' : (x, v) ∈ l.reverse := List.mem_reverse.mpr hm
      generalize l.reverse = r at hnd' hm'
      induction r with
      | nil => cases hm'
      | cons p r ih =>
        rw [List.map_cons, List.nodup_cons] at hnd'
        rcases List.mem_cons.mp hm' with rfl | hm'
        · simp [List.lookup]
        · have : x ≠ p.1 := fun q => hnd'.1 (q ▸ List.mem_map.mpr ⟨(x, v), hm', rfl⟩)
          rw [List.lookup_cons, show (x == p.1) = false from by simpa using this]
          exact ih hnd'.2 hm'
    have key : ∀ (ns : List Str) (vs : List Value) (ds : List V), VMs mu s.heap vs ds → ns.length = ds.length → lk (ns.zip ds) x = some d → ∃ v, (x, v) ∈ ns.zip vs ∧ VM mu s.heap v d := by
      intro ns
      induction ns with
      | nil => intro vs ds _ _ e; simp [lk] at e
      | cons y ns ih =>
        intro vs ds vm hl e
        cases vm with
        | nil => simp at hl
        | @cons v vs d' ds a r =>
          by_cases q : x = y
          · subst q
            simp [lk, List.lookup] at e
            subst e
            exact ⟨v, by simp, a⟩
          · have e' : lk (ns.zip ds) x = some d := by
              simp only [lk, List.zip_cons_cons, List.lookup_cons, show (x == y) = false from by simpa using q] at e
              exact e
            obtain ⟨w, hm, wm⟩ := ih vs ds r (by simpa using hl) e'
            exact ⟨w, by simp [hm], wm⟩
    obtain ⟨v, hm, wm⟩ := key names vs ds vm hlen.symm e
    refine ⟨v, rev _ ?_ x v hm, wm⟩
    rw [List.map_fst_zip (by rw [vm.length, hlen]; exact Nat.le_refl _)]
    exact hn
noncomputable def Keeps (X : Cx) (f : Value) : Prop := ∀ h, X.K.In h → ∃ k, (k = Keeper.frame ∨ k = Keeper.machine ∨ k = Keeper.boundFrame) ∧ Looks (model X.prog X.w) h (keeperOf f) k
theorem keeps_of {f : Value} (e : keepIn X.K f = true) : Keeps X f := fun h x => keeps_K e h x
theorem keeps_builtin {id : String} : Keeps X (.builtin id) := fun _ _ => ⟨.machine, .inr (.inl rfl), Looks.of_pure rfl⟩
theorem keeps_type {id : String} : Keeps X (.type id) := fun _ _ => ⟨.machine, .inr (.inl rfl), Looks.of_pure rfl⟩
theorem call_with {pos : Pos} {f : Value} {first : List Value} {fd : List V} {trees : List (Bool × Sem Value)} {Q : V → S → Prop} (ok : Ok X n) (hk : Keeps X f) (hplain : trees.any (·.1) = false)
    (h : W X (spliced trees) VMs σ (fun ds σ₂ => Call X f (fd ++ ds) σ₂ Q E) E) {σ₀ : S} {s₀ s : Shared} (P : Post X σ₀ s₀ σ s) (fm : VMs σ.mu s.heap first fd) :
    wpAny (model X.prog X.w) X.A (callWith pos f first trees []) (Qw X σ₀ s₀ VM Q) (Ew X σ₀ s₀ E) s := by
  have fin : ∀ {A : Around}, A = X.A → wpAny (model X.prog X.w) A (evalArgs f true trees []) (fun a s₁ => X.K.In s₁.heap ∧ wpAny (model X.prog X.w) A (call f (first ++ a.pos) a.kw) (Qw X σ₀ s₀ VM Q) (Ew X σ₀ s₀ E) s₁) (Ew X σ₀ s₀ E) s := by
    rintro A rfl
    have main : wpAny (model X.prog X.w) X.A (spliced trees) (fun vs s₁ => X.K.In s₁.heap ∧ wpAny (model X.prog X.w) X.A (call f (first ++ vs) []) (Qw X σ₀ s₀ VM Q) (Ew X σ₀ s₀ E) s₁) (Ew X σ₀ s₀ E) s :=
      h.run P fun vs s₁ ds σ₁ p₁ P₁ vm c => ⟨P₁.st.inK ok, wpAny_mono (c _ s₁ P₁.st ((fm.mono p₁.ext).append vm)) (fun _ _ q => q.after P₁) fun _ _ q => q.after P₁⟩
    cases trees with
    | nil =>
      unfold evalArgs
      show wpAny _ _ (spliced [] >>= _) _ _ s
      refine wpAny_bind (wpAny_mono main (fun vs s' h' => ?_) fun _ _ x => x)
      refine wpAny_holding ?_
      exact wpAny_bind (wpAny_pure (wpAny_bind (wpAny_pure (wpAny_pure h'))))
    | cons t r =>
      obtain ⟨b, t⟩ := t
      cases b
      · exact evalArgs_plain main
      · simp at hplain
  exact callWith_of (P := X.K.In) (by rw [hplain]; rfl) hk (fin rfl)
inductive CallQ (X : Cx) (f : V) (P : Value → Prop) : Prop
  | mk (fv : Value) (e : f = .lit fv) (k : Keeps X fv) (h : P fv)
theorem W_Call {x : Str} {np pos : Pos} {args : List Expr} {Q : V → S → Prop} (ok : Ok X n)
    (h : WE X (.Name x np) σ (fun f σ₁ => CallQ X f fun fv => W X (spliced (backTo pos (starEach args X.env))) VMs σ₁ (fun ds σ₂ => Call X fv ds σ₂ Q E) E) E)
    (hplain : ∀ env, (backTo pos (starEach args env)).any (·.1) = false) : WE X (.Call (.Name x np) args [] pos) σ Q E := fun _ st =>
  wpAny_Call_NameR (h.run (Post.refl st) fun v s₁ f σ₁ _ P₁ vm h₁ => by
    obtain ⟨fv, rfl, hk, h₂⟩ := h₁
    cases vm.litI
    exact call_with (fd := []) ok hk (hplain _) h₂ P₁ .nil)
noncomputable def GetM (X : Cx) (a : V) (name : Str) (σ : S) (Q : Value → List V → S → Prop) (E : Value → S → Prop) : Prop :=
  ∀ v s pl, St X σ s.heap → VM σ.mu s.heap v a → wpAny (model X.prog X.w) X.A (getMethod v name pl) (fun r s' => ∃ ds σ', Post X σ s σ' s' ∧ VMs σ'.mu s'.heap r.2 ds ∧ Q r.1 ds σ') (Ew X σ s E) s
theorem W_Method {o : Expr} {name : Str} {apos pos : Pos} {args : List Expr} {Q : V → S → Prop} (ok : Ok X n)
    (h : WE X o σ (fun a σ₁ => GetM X a name σ₁ (fun f fd σ₂ => Keeps X f ∧ W X (spliced (backTo pos (starEach args X.env))) VMs σ₂ (fun ds σ₃ => Call X f (fd ++ ds) σ₃ Q E) E) E) E)
    (hbase : ∀ env, attributeBase o name env (eval o env) = eval o env)
    (hfew : ∀ env, ((backTo pos (starEach args env)).all (fun x => !x.1) && (backToKw pos (keywordEach [] env)).all (fun x => x.1.isSome)
      && decide (args.length + ([] : List Keyword).length + (if ([] : List Keyword).isEmpty then 0 else 1) < 30)) = true)
    (hline : (apos.endLine == pos.line) = true) (hplain : ∀ env, (backTo pos (starEach args env)).any (·.1) = false) : WE X (.Call (.Attribute o name apos) args [] pos) σ Q E := fun _ st => by
  rw [arm_eval_Call, hbase]
  refine wpAny_bind (h.run (Post.refl st) fun v s₁ a σ₁ _ P₁ vm h₁ => wpAny_bind (wpAny_standAt ?_))
  unfold methodCall calleeOf methodCallPos
  have e : methodCallForm (args.length + ([] : List Keyword).length) (backTo pos (starEach args X.env)) (backToKw pos (keywordEach [] X.env)) = true := hfew X.env
  rw [e]
  rw [if_pos rfl]
  dsimp only
  rw [hline]
  refine wpAny_bind (wpAny_holding (wpAny_mono (h₁ v s₁ _ P₁.st vm) (fun r s₂ q => ?_) fun _ _ q => q.after P₁))
  obtain ⟨ds, σ₂, P₂, rm, hk, h₃⟩ := q
  refine wpAny_bind (wpAny_pure ?_)
  exact call_with ok hk (hplain _) h₃ (P₁.trans P₂) rm
theorem getm_inst {a C dx f : Addr} {fs : List (Str × V)} {name : Str} {Q : Value → List V → S → Prop} (ok : Ok X n) (h1 : σ.hp a = some (.inst C dx)) (h2 : σ.hp dx = some (.dict fs)) (km : KMeth X.K C name f) (hd : lk fs name = none)
    (q : Q (.ref f) [.ref a] σ) : GetM X (.ref a) name σ Q E := by
  intro v s pl st vm
  obtain rfl := vm.refI
  obtain ⟨m, F, _⟩ := st.fr ok
  obtain ⟨es, k, I, en, _⟩ := inst_at st h1 h2
  exact method_inst F ok.inK I km.get km.cls km.fn (en.getL.2 hd) ⟨_, σ, Post.refl st, .cons (.ref a) .nil, q⟩
end
end Mine
namespace Mine
open PySem PySem.W PySem.Calls PySem.Spec PyProof.Rows
section
variable {X : Cx} {n : Nat} {σ : S} {E : Value → S → Prop}
noncomputable def Cx.mark (X : Cx) (e : Addr) (b : Bool) : Cx := { X with A := X.A.mark (some (.ref e)), prot := e :: X.prot, ctx := some (e, b) }
noncomputable def isB : Value → Bool
  | .type _ => true
  | _ => false
theorem st_mark {h : Heap} {e : Addr} {b : Bool} {o : Obj} {vs : Array Value} (st : St X σ h) (g : h.get? e = some o) (d : o.data = .fields vs) (hm : ¬ σ.mu e) (hb : b = true → vs[2]? = some .none) : St (X.mark e b) σ h := by
  refine ⟨st.base, st.names, st.own, st.locOff, fun a ha => ?_, st.frs⟩
  rcases List.mem_cons.mp ha with rfl | ha
  · exact ⟨hm, o, vs, g, d, fun q => hb (by cases q; rfl)⟩
  · obtain ⟨z, o', vs', g', d', c'⟩ := st.prot a ha
    refine ⟨z, o', vs', g', d', fun q => ?_⟩
    have q' : some (e, b) = some (a, true) := q
    cases q'
    rw [g] at g'
    cases g'
    rw [d] at d'
    cases d'
    exact hb rfl
theorem st_unmark {h h₀ : Heap} {e : Addr} {b : Bool} {σ₀ : S} (st : St (X.mark e b) σ h) (st₀ : St X σ₀ h₀) (w : ∀ a ∈ X.prot, ∀ o, h₀.get? a = some o → h.get? a = some o) : St X σ h :=
  ⟨st.base, st.names, st.own, st.locOff, fun a ha => by
    obtain ⟨z, _⟩ := st.prot a (.tail _ ha)
    obtain ⟨_, o, vs, g, r⟩ := st₀.prot a ha
    exact ⟨z, o, vs, w a ha o g, r⟩, st.frs⟩
theorem post_unmark {s s' : Shared} {σ' : S} {e : Addr} {b : Bool} (st : St X σ s.heap) (P : Post (X.mark e b) σ s σ' s') : Post X σ s σ' s' :=
  ⟨P.upd, ⟨P.ext.seq, P.ext.obj, fun a ha => P.ext.watch a (.tail _ ha)⟩, st_unmark P.st st fun a ha o g => (P.ext.watch a (.tail _ ha) o g).1⟩
theorem exc_unmark {mu : Addr → Prop} {h : Heap} {e e' : Addr} {b : Bool} {cls : Value} (x : ExcAt (X.mark e b) mu h e' cls) : ExcAt X mu h e' cls := by
  obtain ⟨a, pe, oe, vs, a0, g, c, d, v0, hx⟩ := x
  refine ⟨a, fun q => pe (.tail _ q), oe, vs, a0, g, c, d, v0, ?_⟩
  rcases hx with v1 | ⟨T, oT, ts, v1, bT, pT, r⟩
  · exact .inl v1
  · exact .inr ⟨T, oT, ts, v1, bT, (fun q => pT (.tail _ q)), r⟩
theorem ok_mark {e : Addr} {b : Bool} (ok : Ok X n) (he : e ≠ X.env.locals) : Ok (X.mark e b) n :=
  ⟨ok.inK, ok.top, ok.frames, ok.frame, ok.eframe, ok.kind, ok.genv, ok.benv, ok.above, (fun q => (List.mem_cons.mp q).elim (fun z => he z.symm) ok.locProt), rfl, (fun p q => by cases q; exact .head _), ok.depth, ok.units⟩
theorem came_back {s : Shared} {e : Addr} {cls : Value} (ok : Ok X n) (st : St X σ s.heap) (x : ExcTb X σ.mu s.heap e cls (rawInt X.L)) {σ₀ : S} {s₀ : Shared} (P : Post X σ₀ s₀ σ s) (q : E cls σ) :
    cameBackBy (model X.prog X.w) X.A X.env (Ew X σ₀ s₀ E) (.ref e) s := by
  have x' := x
  obtain ⟨be, pe, oe, vs, a0, T, oT, ts, g, c, d, v0, v1, bT, pT, ne, gT, dT, v3⟩ := x
  unfold cameBackBy
  refine wpAny_bind (wpAny_field g d v1 ?_)
  rw [if_neg (by simp)]
  rw [ok.eframe]
  exact set_flight (fr := some X.L) st x' fun h' P' x'' => ⟨e, cls, σ, P.trans P', rfl, x''.own, q⟩
theorem noted_back {s : Shared} {e : Addr} {cls : Value} (ok : Ok X n) (he : X.env = X.fenv) (st : St X σ s.heap) (x : ExcAt X σ.mu s.heap e cls) {σ₀ : S} {s₀ : Shared} (P : Post X σ₀ s₀ σ s) (q : E cls σ) {A : Around} (hA : A.frames = some (X.fenv :: X.outer)) :
    notedBy (model X.prog X.w) A X.env (cameBackBy (model X.prog X.w) X.A X.env (Ew X σ₀ s₀ E)) (.ref e) s := by
  unfold notedBy
  exact note_any ok he st x (fun h' P' x' => came_back ok P'.st x' (P.trans P') q) hA
noncomputable def Match (X : Cx) (cls c : Value) (b : Bool) : Prop := ∀ (A : Around) (s : Shared) (e : Addr) (oe : Obj) (Q : Bool → Shared → Prop) (E' : Value → Shared → Prop), X.K.In s.heap → s.heap.get? e = some oe → oe.cls = cls → Q b s → wpAny (model X.prog X.w) A (excMatches (.ref e) c) Q E' s
theorem match_builtin {T U : String} {b : Bool} (hexc : isSubtype (.type U) (.type "BaseException") = pure true) (hnt : isSubtype (.type ((Manifest.find? U).elim "type" fun x => x.metatype)) (.type "tuple") = pure false)
    (hsub : isSubtype (.type T) (.type U) = pure b) : Match X (.type T) (.type U) b := fun A s e oe Q E' _ g c q => wpAny_excMatches_type ⟨oe, g, c⟩ hexc hnt hsub q
theorem match_own {C D : Addr} {b : Bool} {oc : Value} {od : Option Addr} {cd : ClassData} {sl : Array (Option Value)} (ho : X.K.lookup C = some ⟨oc, od, .cls cd, sl⟩) (h1 : instIn X.K (.ref C) (.type "tuple") = some false) (h2 : subIn X.K (.ref C) (.type "BaseException") = some true) (h3 : subIn X.K (.ref D) (.ref C) = some b) :
    Match X (.ref D) (.ref C) b := fun A s e oe Q E' inK g c q => by
  obtain ⟨h, gn, dr, tk, os⟩ := s
  dsimp only at inK g
  have L1 := looks_instIn (M := model X.prog X.w) inK h1
  have L2 := looks_subIn (M := model X.prog X.w) inK h2
  have L3 := looks_subIn (M := model X.prog X.w) inK h3
  have L4 : Looks (model X.prog X.w) h (isType (.ref C)) true := (Looks.ld (inK _ _ ho)).andThen .now
  have L5 : Looks (model X.prog X.w) h (typeOf (.ref e)) (.ref D) := c ▸ (Looks.ld g).andThen .now
  unfold excMatches isExcClass
  cases b <;> (repeat (first | lk | simp only [Bool.not_true, Bool.false_eq_true, if_false, if_true])) <;> exact q
theorem WX_Try {body hbody : List Stmt} {b₀ : Stmt} {t : Expr} {hp pos : Pos} {c : Value} {Q : FV → S → Prop} (ok : Ok X n) (he : X.env = X.fenv)
    (ht : ∀ (A : Around) (σ' : S) (s : Shared) (Q' : Value → Shared → Prop) (E' : Value → Shared → Prop), St X σ' s.heap → Q' c s → wpAny (model X.prog X.w) A (eval t X.env) Q' E' s)
    (h : WXs X body σ Q (fun cls σ' => ∃ b, Match X cls c b ∧ if b then ∀ e, Ok (X.mark e (isB cls)) n → WXs (X.mark e (isB cls)) (b₀ :: hbody) σ' Q E else E cls σ')) :
    WX X (.Try body [.ExceptHandler (some t) none (b₀ :: hbody) hp] [] [] pos) σ Q E := fun s st => by
  refine wpAny_Try_except (wpAny_mono (h s st) (fun f s₁ q => ?_) fun e s₁ q => ?_)
  · obtain ⟨g, σ₁, P₁, r, q⟩ := q
    cases f <;> cases g <;> first | exact r.elim | exact wpAny_execs_nil (⟨FV.next, σ₁, P₁, trivial, q⟩ : Qw X σ s FM Q Flow.next s₁) | exact ⟨_, _, P₁, r, q⟩
  · obtain ⟨ea, cls, σ₁, P₁, rfl, x, b, hm, q⟩ := q
    refine note_any ok he P₁.st x (fun h₂ P₂ x₂ => ?_) ok.frames
    refine set_flight (fr := none) P₂.st x₂ fun h₃ P₃ x₃ => ?_
    have P := (P₁.trans P₂).trans P₃
    have x₃' := x₃
    obtain ⟨be, pe, oe, vs, a0, T, oT, ts, g, cc, d, v0, v1, bT, pT, ne, gT, dT, v3⟩ := x₃
    refine wpAny_handleBy_cons (codeAny_handlers_test (ht _ σ₁ _ _ _ P₃.st ?_)) (by intro q; cases q)
    refine hm _ _ ea oe _ _ (P₃.st.inK ok) g cc ?_
    cases b
    · simp only [Bool.false_eq_true, if_false] at q ⊢
      refine wpAny_handleBy_nil ?_
      unfold PySem.passOn
      refine wpAny_bind (wpAny_field g d v1 ?_)
      rw [if_neg (by simp)]
      rw [ok.eframe]
      refine wpAny_bind (set_flight (fr := some X.L) P₃.st x₃' fun h₄ P₄ x₄ => wpAny_throw ?_)
      exact ⟨ea, cls, σ₁, P.trans P₄, rfl, x₄.own, q⟩
    · simp only [if_true] at q ⊢
      refine codeAny_handlers_suite ?_
      refine set_flight (fr := none) P₃.st x₃' fun h₄ P₄ x₄ => ?_
      have PP := P.trans P₄
      obtain ⟨bm', _, oe', vs', _, T', _, _, g', _, d', ⟨_, c0⟩, _⟩ := x₄
      have eL : ea ≠ X.env.locals := fun z => by
        obtain ⟨m, ⟨oL, es, ep, gL, dL, _⟩, _⟩ := P₄.st.names
        rw [← z] at gL
        have : some oe' = some oL := g'.symm.trans gL
        cases this
        rw [d'] at dL; cases dL
      refine wpAny_mono (q ea (ok_mark ok eL) _ (st_mark P₄.st g' d' bm'.2 fun z => c0 (by cases cls <;> first | exact ⟨_, rfl⟩ | cases z))) (fun f s₅ q => ?_) fun e' s₅ q => ?_
      · obtain ⟨gv, σ₅, P₅, r, q⟩ := q
        exact ⟨gv, σ₅, PP.trans (post_unmark P₄.st P₅), r, q⟩
      · obtain ⟨e₅, cls₅, σ₅, P₅, rfl, x₅, q⟩ := q
        exact noted_back ok he (post_unmark P₄.st P₅).st (exc_unmark x₅) (PP.trans (post_unmark P₄.st P₅)) q ok.frames
end
end Mine
namespace Mine
open PySem PySem.W PySem.Calls PySem.Spec PyProof.Rows
section
variable {X : Cx} {n : Nat} {σ : S} {E : Value → S → Prop}
theorem post_drop {s s' : Shared} {σ' : S} {hp : Addr → Option HO} {loc : List (Str × V)} (P : Post X σ s σ' s') (h : ∀ a o, hp a = some o → σ'.hp a = some o) (hl : ∀ x d, lk loc x = some d → lk σ'.loc x = some d) : Post X σ s ⟨loc, hp⟩ s' := by
  have nm : ∀ a, ¬ σ'.mu a → ¬ S.mu ⟨loc, hp⟩ a := fun a n m => by
    cases q : hp a with
    | none => exact m q
    | some o => exact n (by show σ'.hp a ≠ none; rw [h a o q]; exact Option.some_ne_none _)
  have x : Ext X.env.locals X.prot σ'.mu s'.heap (S.mu ⟨loc, hp⟩) s'.heap := ⟨fun a o e n _ => ⟨e, nm a n⟩, fun a o e n _ _ => ⟨nm a n, o.slots, e⟩, fun a ha _ e => ⟨e, nm a (P.st.protOff a ha)⟩⟩
  refine ⟨P.upd, P.ext.trans x, ⟨P.st.base, ?_, fun a o e => ?_, nm _ P.st.locOff, fun a ha => ⟨nm a (P.st.protOff a ha), (P.st.prot a ha).2⟩, fun e he => ?_⟩⟩
  · obtain ⟨m, hn, hm⟩ := P.st.names
    exact ⟨m, hn, fun y d e => let ⟨v, q, r⟩ := hm y d (hl y d e); ⟨v, q, r.mono x⟩⟩
  · obtain ⟨y, z⟩ := P.st.own a o (h a o e)
    exact ⟨y.mono x rfl, z⟩
  · obtain ⟨z, L, o, es, ep, hf, hn, hm, g, d⟩ := P.st.frs e he
    exact ⟨z, L, o, es, ep, hf, hn, nm L hm, g, d⟩
theorem vm_drop {σ' : S} {hp : Addr → Option HO} {loc : List (Str × V)} {h : Heap} {v : Value} {d : V} (y : VM σ'.mu h v d) (k : ∀ a o, hp a = some o → σ'.hp a = some o) : VM (S.mu ⟨loc, hp⟩) h v d := by
  refine y.mono (L := 0) (prot := []) ⟨fun a o e n _ => ⟨e, fun m => ?_⟩, fun a o e n _ _ => ⟨fun m => ?_, o.slots, e⟩, fun a ha => nomatch ha⟩ <;>
  · cases q : hp a with
    | none => exact m q
    | some o => exact n (by show σ'.hp a ≠ none; rw [k a o q]; exact Option.some_ne_none _)
structure KExc (K : Frag) (C : Addr) : Prop where
  cls : ∃ oc od cd sl, K.lookup C = some ⟨oc, od, .cls cd, sl⟩
  base : subIn K (.ref C) (.type "BaseException") = some true
  type : typeIn K (.ref C) = some (.type "type")
theorem entry_unchain : entryFor table "proto.unchain" = some Builtin.«proto.unchain» := entryFor_of_tree (by kernel_rfl)
theorem upd_same {hp : Addr → Option HO} {a : Addr} {o : HO} (h : hp a = some o) : upd hp a o = hp := by
  funext b; unfold upd; split
  · rename_i e; rw [e, h]
  · rfl
theorem exc_field {s : Shared} {a C : Addr} {vs : Array Value} {a0 x : Value} {od : Option Addr} {i : Nat} {Q : Unit → Shared → Prop} {E' : Value → Shared → Prop} {A : Around} (ok : Ok X n) (st : St X σ s.heap) (h1 : σ.hp a = some (.exc C od))
    (g : s.heap.get? a = some { cls := .ref C, dict := od, data := .fields vs }) (v0 : vs[0]? = some a0) (v1 : vs[1]? = some .none) (v6 : vs.size = 6) (hi : i < 6) (hi1 : i ≠ 1)
    (h : ∀ h' b0, Post X σ s σ { s with heap := h' } → h'.get? a = some { cls := .ref C, dict := od, data := .fields (vs.setIfInBounds i x) } → (vs.setIfInBounds i x)[0]? = some b0 → (vs.setIfInBounds i x)[1]? = some .none → (vs.setIfInBounds i x).size = 6 → Q () { s with heap := h' }) :
    wpAny (model X.prog X.w) A (setField (.ref a) i x) Q E' s := by
  have other : ∀ b, b ≠ a → (s.heap.update a (Obj.mapFields (·.setIfInBounds i x))).get? b = s.heap.get? b := fun b hb => Heap.get?_update_other _ _ (Ne.symm hb)
  have g' : (s.heap.update a (Obj.mapFields (·.setIfInBounds i x))).get? a = some { cls := .ref C, dict := od, data := .fields (vs.setIfInBounds i x) } := Heap.get?_update_self _ g rfl
  have w1 : (vs.setIfInBounds i x)[1]? = some .none := by rw [Array.getElem?_setIfInBounds_ne hi1]; exact v1
  have w6 : (vs.setIfInBounds i x).size = 6 := by rw [Array.size_setIfInBounds]; exact v6
  obtain ⟨b0, w0⟩ : ∃ b0, (vs.setIfInBounds i x)[0]? = some b0 := ⟨_, Array.getElem?_eq_getElem (by rw [w6]; decide)⟩
  refine wpAny_setField g rfl (by rw [v6]; exact hi) (h _ b0 ?_ g' w0 w1 w6)
  obtain ⟨m, hn, hm⟩ := st.names
  have aL : X.env.locals ≠ a := fun e => st.locOff (by rw [e]; show σ.hp a ≠ none; rw [h1]; exact Option.some_ne_none _)
  have P := post_write (h' := s.heap.update a (Obj.mapFields (·.setIfInBounds i x))) (tk := s.toks) (a := a) (o := .exc C od) ok st (fun b o n1 _ q => (other b n1).trans q) ⟨m, hn.at' (fun o q => (other _ aL).trans q), hm⟩ (.inl (by rw [h1]; exact Option.some_ne_none _))
    fun _ _ _ => ⟨_, b0, g', w0, w1, w6⟩
  rwa [upd_same h1] at P
theorem raise_new {s : Shared} {a C : Addr} {vs : Array Value} {a0 : Value} {od : Option Addr} {σ₀ : S} {s₀ : Shared} {hp : Addr → Option HO} (ok : Ok X n) (P : Post X σ₀ s₀ σ s) (h1 : σ.hp a = some (.exc C od)) (g : s.heap.get? a = some { cls := .ref C, dict := od, data := .fields vs })
    (v0 : vs[0]? = some a0) (v1 : vs[1]? = some .none) (v6 : vs.size = 6) (hs : ∀ b o, hp b = some o → σ.hp b = some o) (ha : hp a = none) (hctx : ∀ p, X.ctx = some p → p.2 = true) (q : E (.ref C) ⟨σ.loc, hp⟩) :
    wpAny (model X.prog X.w) X.A (raiseNew (.ref a) : Sem Flow) (Qw X σ₀ s₀ FM (fun _ _ => False)) (Ew X σ₀ s₀ E) s := by
  have am : σ.mu a := by show σ.hp a ≠ none; rw [h1]; exact Option.some_ne_none _
  have prot : a ∉ X.prot := fun hp' => P.st.protOff a hp' am
  have bn := (P.st.own a _ h1).2
  have fin : ∀ s₁, Post X σ₀ s₀ σ s₁ → ∀ vs b0, s₁.heap.get? a = some { cls := .ref C, dict := od, data := .fields vs } → vs[0]? = some b0 → vs[1]? = some .none → Ew X σ₀ s₀ E (.ref a) s₁ := fun s₁ P vs b0 g v0 v1 =>
    ⟨a, .ref C, ⟨σ.loc, hp⟩, post_drop P hs fun _ _ e => e, rfl, ⟨⟨bn, fun m => m ha⟩, prot, _, vs, b0, g, rfl, rfl, ⟨v0, fun ⟨T, e⟩ => by cases e⟩, .inl v1⟩, q⟩
  unfold raiseNew
  refine wpAny_bind (wpAny_handled ?_)
  rw [ok.handled]
  cases hc : X.ctx with
  | none => exact wpAny_bind (wpAny_pure (wpAny_throw (fin s P vs a0 g v0 v1)))
  | some p =>
    obtain ⟨hA, b⟩ := p
    obtain rfl : b = true := hctx _ hc
    obtain ⟨nm, o, ws, gh, dh, ch⟩ := P.st.prot hA (ok.ctxIn _ hc)
    have hne : hA ≠ a := fun e => nm (e ▸ am)
    dsimp only [Option.map]
    rw [if_pos (show (Value.ref hA != Value.ref a) = true from by simpa using hne)]
    refine wpAny_bind (wpAny_holding (wpAny_runValue (codeAny_builtin entry_unchain ?_)))
    unfold Builtin.«proto.unchain»
    dsimp only
    refine wpAny_bind (wpAny_field gh dh (ch hc) ?_)
    rw [if_pos (by simp)]
    refine wpAny_pure ?_
    refine wpAny_bind ?_
    show wpAny _ _ (setField (.ref a) 2 (.ref hA)) _ _ _
    refine exc_field ok P.st h1 g v0 v1 v6 (by decide) (by decide) fun h' b0 P' g' w0 w1 _ => wpAny_throw (fin _ (P.trans P') _ b0 g' w0 w1)
inductive RaiseQ (X : Cx) (E : Value → S → Prop) (d : V) (σ₁ : S) : Prop
  | mk (a C : Addr) (od : Option Addr) (hp : Addr → Option HO) (e : d = .ref a) (h1 : σ₁.hp a = some (.exc C od)) (kx : KExc X.K C) (hs : ∀ b o, hp b = some o → σ₁.hp b = some o) (ha : hp a = none) (q : E (.ref C) ⟨σ₁.loc, hp⟩)
theorem WX_RaiseFrom {e : Expr} {k : Nat} {p' pos : Pos} {Q : FV → S → Prop} (ok : Ok X n) (hctx : ∀ p, X.ctx = some p → p.2 = true)
    (h : WE X e σ (RaiseQ X E) E) :
    WX X (.Raise (some e) (some (.Constant .none k p')) pos) σ Q E := fun s st => by
  rw [arm_exec_Raise]
  refine wpAny_bind (wpAny_standAt ?_)
  unfold raiseStmt
  show wpAny _ _ ((do let v ← eval e X.env; standAt pos; pure v) >>= _) _ _ _
  refine wpAny_bind (wpAny_bind (h.run (Post.refl st) fun v s₁ d σ₁ _ P₁ vm h₁ => wpAny_bind (wpAny_standAt (wpAny_pure ?_))))
  obtain ⟨a, C, od, hp, rfl, h1, kx, hs, ha, q⟩ := h₁
  obtain rfl := vm.refI
  obtain ⟨⟨vs, a0, g, v0, v1, v6⟩, _⟩ := P₁.st.own a _ h1
  have inK := P₁.st.inK ok
  obtain ⟨hh, gn, dr, tk, os⟩ := s₁
  dsimp only at inK g
  have L1 : Looks (model X.prog X.w) hh (typeOf (.ref a)) (.ref C) := (Looks.ld g).andThen .now
  have L2 := looks_subIn (M := model X.prog X.w) inK kx.base
  have L3 := looks_typeIn (M := model X.prog X.w) inK kx.type
  have L4 : Looks (model X.prog X.w) hh (isType (.ref a)) false := (Looks.ld g).andThen .now
  have L6 : Looks (model X.prog X.w) hh (isExcClass (.ref a)) false := L4.andThen .now
  have L7 : Looks (model X.prog X.w) hh (isInstance (.ref a) (.type "BaseException")) true := L1.andThen L2
  have L5 : Looks (model X.prog X.w) hh (excFromValue (.ref a) "exceptions must derive from BaseException") (.ref a) := L6.andThen (L7.andThen .now)
  have L8 : Looks (model X.prog X.w) hh (raisedInstance (.ref a)) (.ref a) := L1.andThen (L3.andThen .now)
  refine wpAny_bind (wpAny_holding ?_)
  show wpAny _ _ ((do let v ← eval (.Constant .none k p') X.env; standAt pos; pure v)) _ _ _
  refine wpAny_bind (wpAny_Constant_none (wpAny_bind (wpAny_standAt (wpAny_pure (wpAny_bind (wpAny_pure ?_))))))
  refine wpAny_bind (wpAny_holding (L5.here ?_))
  dsimp only
  rw [if_pos (by rfl)]
  refine wpAny_bind (wpAny_pure ?_)
  refine wpAny_bind (exc_field ok P₁.st h1 g v0 v1 v6 (by decide) (by decide) fun h₂ b0 P₂ g₂ w0 w1 w6 => ?_)
  refine wpAny_bind (exc_field ok P₂.st h1 g₂ w0 w1 w6 (by decide) (by decide) fun h₃ c0 P₃ g₃ x0 x1 x6 => ?_)
  have P := (P₁.trans P₂).trans P₃
  have M1 : Looks (model X.prog X.w) h₃ (typeOf (.ref a)) (.ref C) := (Looks.ld g₃).andThen .now
  have M3 := looks_typeIn (M := model X.prog X.w) (P.st.inK ok) kx.type
  have M4 : Looks (model X.prog X.w) h₃ (isType (.ref a)) false := (Looks.ld g₃).andThen .now
  have M8 : Looks (model X.prog X.w) h₃ (raisedInstance (.ref a)) (.ref a) := M1.andThen (M3.andThen .now)
  refine wpAny_bind (M4.here ?_)
  rw [if_neg (by decide)]
  refine wpAny_bind (M8.here ?_)
  unfold setFlight
  refine wpAny_bind (wpAny_bind (wpAny_field g₃ rfl x1 ?_))
  rw [if_neg (by simp)]
  refine wpAny_pure ?_
  exact wpAny_mono (raise_new ok P h1 g₃ x0 x1 x6 hs ha hctx q) (fun _ _ q => by obtain ⟨_, _, _, _, z⟩ := q; exact z.elim) fun _ _ e => e
end
end Mine
namespace Mine
open PySem PySem.W PySem.Calls PySem.Spec PyProof.Rows Builtin Builtin.ObjectAttr
section
variable {X : Cx} {n : Nat} {σ : S} {E : Value → S → Prop}
theorem exc_core {prog : Program} {w : World} {A : Around} {R : Result → Shared → Prop} {h : Heap} {g : Array GenState} {d : Drawn} {t : Nat} {os : OsState}
    {nm q : Str} {C N fI : Addr} {bs bm : List Value} {hdct : Bool} {sn : List Str} {sub : List Value} {ab : Bool} {col : Option Bool} {dd : Option Addr} {k0 k1 k2 k3 k5 : Option Value} {B newId initId : String} {rest : List Value}
    (F : ExcBaseFacts B newId initId bm) (hC : h.get? C = some (excClassObj nm q C N bs bm hdct sn sub ab col dd k0 k1 k2 k3 k5 newId))
    (hcall : Looks (model prog w) h (specialOf (.ref C) "__call__") (some (.builtin "type.__call__"))) (htyp : Looks (model prog w) h (isInstance (.ref C) (.type "type")) true)
    (hself : Looks (model prog w) h (isSubtype (.ref C) (.ref C)) true)
    (hi : Looks (model prog w) h (typeLookup (.ref C) "__init__") (some (.ref fI))) (hb : ∀ self, Looks (model prog w) h (bindSpecial (.ref fI) self) (.ref fI, [self])) (hrest : rest.length ≤ sizeLine)
    (hq : codeAny (model prog w) (A.under (.builtin "type.__call__" ⟨.ref C :: rest, []⟩)) (.call (.ref fI) ⟨.ref (h.objs.size + 1) :: rest, []⟩) (InitBack (h.objs.size + 1) R)
      ⟨(h.push { cls := .type "tuple", data := .seq rest.toArray }).push { cls := .ref C, data := .fields #[.ref h.objs.size, .none, .none, .none, .bool false, .none] }, g, d, t, os⟩) :
    codeAny (model prog w) A (.call (.ref C) ⟨rest, []⟩) R ⟨h, g, d, t, os⟩ := by
  refine codeAny_of_tree ?_
  show wpAny _ _ (callAny (.ref C) _) _ _ _
  refine nd_load hC ?_
  show wpAny _ _ (callAny.viaDunder (.ref C) _) _ _ _
  unfold callAny.viaDunder
  refine wpAny_bind (hcall.at ?_)
  dsimp only
  rw [tc_bind]
  refine wpAny_bind (wpAny_pure (wpAny_bind (wpAny_pure ?_)))
  refine wpAny_pure (a := Fin.again (.call (.builtin "type.__call__") ⟨.ref C :: rest, []⟩)) (And.intro rfl ?_)
  refine codeAny_call_builtin_at (Code.quiet_builtin _ (by decide +kernel)) entry_typeCall (check_slot tc_kind tc_split htyp (tc_args _ _ _) ?_)
  have hm : Looks (model prog w) h (mroOf (.ref C)) (.ref C :: bm) := ((Looks.ld (part := none) hC).andThen .now).andThen .now
  have hmade : Looks (model prog w) h (Bind.madeBy (.ref C)) (some newId) := fun A Q E s k q => by
    obtain ⟨hh, g, d, t, os⟩ := s
    exact wpAny_madeBy_exc (k _ _ hC) q
  have tcl : (Value.ref C == Value.type "type") = false := rfl
  unfold Builtin.«type.__call__»
  dsimp only
  rw [tcl]
  simp only [Bool.false_eq_true, if_false]
  refine wpAny_bind (hm.here ?_)
  simp only [List.isEmpty_cons, Bool.false_eq_true, if_false]
  refine wpAny_bind (hmade.here ?_)
  refine wpAny_bind (wpAny_pure ?_)
  refine wpAny_bind (wpAny_holding (wpAny_call ?_))
  refine codeAny_call_builtin_code (Code.quiet_builtin _ F.quiet) (wpAny_check_new_sub F hC ?_)
  refine codeAny_exc_new_sub F hC ?_ hrest
  have k : ∀ b o, h.get? b = some o → ((h.push { cls := .type "tuple", data := .seq rest.toArray }).push { cls := .ref C, data := .fields #[.ref h.objs.size, .none, .none, .none, .bool false, .none] }).get? b = some o :=
    fun b o e => Heap.get?_push_of_some _ (Heap.get?_push_of_some _ e)
  have hx : ((h.push { cls := .type "tuple", data := .seq rest.toArray }).push { cls := .ref C, data := .fields #[.ref h.objs.size, .none, .none, .none, .bool false, .none] }).get? (h.objs.size + 1) = some
      { cls := .ref C, data := .fields #[.ref h.objs.size, .none, .none, .none, .bool false, .none] } := by heap_get
  have t1 : Looks (model prog w) ((h.push { cls := .type "tuple", data := .seq rest.toArray }).push { cls := .ref C, data := .fields #[.ref h.objs.size, .none, .none, .none, .bool false, .none] }) (typeOf (.ref (h.objs.size + 1))) (.ref C) := (Looks.ld hx).andThen .now
  have s1 := hself.keeps k
  have i1 := hi.keeps k
  have b1 := (hb (.ref (h.objs.size + 1))).keeps k
  have ii : Looks (model prog w) ((h.push { cls := .type "tuple", data := .seq rest.toArray }).push { cls := .ref C, data := .fields #[.ref h.objs.size, .none, .none, .none, .bool false, .none] }) (isInstance (.ref (h.objs.size + 1)) (.ref C)) true := t1.andThen s1
  refine wpAny_bind (ii.at ?_)
  simp only [Bool.not_true, Bool.false_eq_true, if_false]
  unfold callSpecial? specialOf
  repeat (first | with_reducible refine wpAny_call ?_ | lk)
  refine codeAny_mono hq fun r s' z => ?_
  rcases r with e | (v | _ | _ | _) <;> first | exact z | exact z.elim | skip
  obtain ⟨rfl, z⟩ := z
  exact wpAny_pure (wpAny_pure z)
theorem store_in_dict {prog : Program} {w : World} {A : Around} {s : Shared} {E' : Value → Shared → Prop} {Q : Fin → Shared → Prop} {d : Addr} {es : List DictEntry} {k : Nat} {name : Str} {tk : Tok} {v : Value} (D : s.heap.get? d = some (dictOf es k)) (hl : (PySem.W.getL name es).isSome = true)
    (hz : (putL name (PyData.keyHash w.params name) (.str name s.toks) v es).length ≤ 1000)
    (h : ∀ h', Heap.SameBut d s.heap h' → h'.get? d = some (dictOf (putL name (PyData.keyHash w.params name) (.str name s.toks) v es) (putN name es k)) → Q (.done (.ret .none)) { s with heap := h', toks := s.toks + 1 }) :
    wpAny (model prog w) A (storeInDict d (.str name tk) name v) Q E' s := by
  have D' : (s.heap.update d (Obj.putName name (PyData.keyHash w.params name) (.str name s.toks) v)).get? d = some (dictOf (putL name (PyData.keyHash w.params name) (.str name s.toks) v es) (putN name es k)) := by
    rw [← putName_dict]
    exact Heap.get?_update_self _ D (by rw [putName_dict]; rfl)
  unfold storeInDict
  refine wpAny_bind (wpAny_pure (wpAny_bind ?_))
  unfold nsSet
  refine wpAny_bind (wpAny_bind (wpAny_askSetting (wpAny_pure (wpAny_bind (wpAny_mkText (wpAny_bind (wpAny_loadPart D ?_)))))))
  have hl' := hl
  unfold PySem.W.getL at hl
  have c : (!es.any (·.key.isStr name) && es.any (·.refKey)) = false := by
    split at hl
    · rename_i en he
      rw [List.any_eq_true.mpr ⟨en, List.mem_of_find?_eq_some he, List.find?_some he⟩]; rfl
    · split at hl
      · cases hl
      · rename_i z; rw [Bool.not_eq_true] at z; rw [z, Bool.and_false]
  have c' : (!es.toArray.any (·.key.isStr name) && es.toArray.any (·.refKey)) = false := by
    rw [← Array.any_toList, ← Array.any_toList]; exact c
  dsimp only
  rw [aRefKeyMayBeTheName_at, c']
  refine wpAny_updatePart D ?_
  refine wpAny_bind (wpAny_lookBehind D' (pastItsLine_dict (by rw [List.size_toArray, sizeLine_eq]; omega)) ?_)
  exact wpAny_pure (h _ (Heap.SameBut.update ..) D')
structure KExcSet (K : Frag) (C : Addr) (name : Str) : Prop where
  set : findIn K (.ref C) "__setattr__" = some (some (.builtin "object.__setattr__"))
  cls : ∃ cd, clsIn K C = some cd ∧ cd.hasDict = true ∧ ∀ self, refuseLoop self "__setattr__" cd.mro = pure ()
  obj : mroIn K C (.type "object") = some true
  taker : takerIn K C name = some none
theorem osa_exc {prog : Program} {w : World} {A : Around} {R : Result → Shared → Prop} {s : Shared} {K : Frag} {x C : Addr} {ox : Obj} {od : Option Obj} {name : Str} {tk : Tok} {v : Value} (X : K.In s.heap) (I : InstAt s.heap x ox C od) (k : KExcSet K C name)
    (h : ∀ b, wpAny (model prog w) A.in1 (storeInOwnDict (.ref x) (.ref C) (.str name tk) name v b)
      (fun fin s' => match fin with | .done f => R (.ok f) s' | .again c' => c'.quiet = true ∧ codeAny (model prog w) A c' R s') (fun e s' => R (.error e) s') s) :
    codeAny (model prog w) A (.call (.builtin "object.__setattr__") ⟨[.ref x, .str name tk, v], []⟩) R s := by
  have SF := PySem.F.store_object
  obtain ⟨cd, hc, hdct, ho⟩ := k.cls
  have sub : Looks (model prog w) s.heap (isInstance (.ref x) (.type "object")) true := I.type.andThen (looks_mroIn X k.obj)
  refine codeAny_call_builtin SF.slot.plain SF.entry (@check_slot (model prog w) _ _ s "object.__setattr__" "object" "__setattr__" (.ref x) [.str name tk, v] [] _ SF.kind SF.split sub (SF.args (.ref x) (.str name tk) v) ?_)
  obtain ⟨attr, ha, hr⟩ := Option.bind_eq_some_iff.mp k.taker
  have hm : Looks (model prog w) s.heap (mroOf (.ref C)) cd.mro := (looks_clsIn X hc).andThen .now
  have L3 : Looks (model prog w) s.heap (storeTaker? attr) none := by
    cases attr with
    | none => cases hr; exact .now
    | some a =>
      obtain ⟨b, hb, e⟩ := Option.map_eq_some_iff.mp hr
      refine (looks_takesIn X hb).andThen ?_
      cases b
      · exact .now
      · cases e
  rw [osa_eq, refuse_eq]
  refine wpAny_bind (wpAny_bind (I.type.here (wpAny_bind (hm.here ?_))))
  rw [ho]
  refine wpAny_pure (wpAny_bind (I.type.here (wpAny_bind ((looks_findIn X ha).here (wpAny_bind (L3.here ?_))))))
  exact h _
theorem set_exc1 {a C d : Addr} {fs : List (Str × V)} {name : Str} {dv : V} {Q : Unit → S → Prop} (ok : Ok X n) (h1 : σ.hp a = some (.exc C (some d))) (h2 : σ.hp d = some (.dict fs)) (ks : KExcSet X.K C name)
    (hlen : fs.length ≤ 90) (q : Q () { σ with hp := upd σ.hp d (.dict (updF fs name dv)) }) {σ₀ : S} {s₀ s : Shared} (P : Post X σ₀ s₀ σ s) {v : Value} (vm : VM σ.mu s.heap v dv) :
    wpAny (model X.prog X.w) X.A (setAttr (.ref a) name v) (Qw X σ₀ s₀ RU Q) (Ew X σ₀ s₀ E) s := by
  have st := P.st
  obtain ⟨⟨vs, a0, g1, v0, v1, v6⟩, _⟩ := st.own a _ h1
  obtain ⟨⟨es, k, g2, en, _⟩, _⟩ := st.own d _ h2
  have I : InstAt s.heap a { cls := .ref C, dict := some d, data := .fields vs } C (some (dictOf es k)) := ⟨g1, rfl, rfl, g2⟩
  have inK := st.inK ok
  refine set_plain inK I ks.set ?_
  obtain ⟨cd, hc, hdct, _⟩ := ks.cls
  refine osa_exc (s := { s with toks := s.toks + 1 }) inK I ks fun b => ?_
  have hl : (PySem.W.getL name es).isSome = true := by
    cases e : lk fs name with
    | none => rw [en.getL.2 e]; rfl
    | some d' => obtain ⟨w, e', _⟩ := en.getL.1 d' e; rw [e']; rfl
  have el := en.length
  have en' := en.put (name := name) (hs := PyData.keyHash X.w.params name) (tk := s.toks + 1) vm
  have el' := en'.length
  have ul := updF_length fs name dv
  refine wpAny_bind (wpAny_pure (wpAny_bind (wpAny_bind (wpAny_loadPart (o := { cls := .ref C, dict := some d, data := .fields vs }) g1 ?_))))
  dsimp only
  refine wpAny_bind (looks_clsIn inK hc _ _ _ _ (fun _ _ e => e) ?_)
  rw [hdct]
  refine wpAny_pure (a := some d) ?_
  refine store_in_dict (s := { s with toks := s.toks + 1 }) g2 hl (by show (putL name (PyData.keyHash X.w.params name) (.str name (s.toks + 1)) v es).length ≤ 1000; omega) fun h' hs g' => ?_
  obtain ⟨m, hn, hm⟩ := st.names
  have dL : X.env.locals ≠ d := fun e => st.locOff (by rw [e]; show σ.hp d ≠ none; rw [h2]; exact Option.some_ne_none _)
  exact ⟨(), _, P.trans (post_write (o := .dict (updF fs name dv)) ok st (fun b o n1 _ q => (hs.2 b n1).trans q) ⟨m, hn.at' (fun o q => (hs.2 _ dL).trans q), hm⟩ (.inl (by rw [h2]; exact Option.some_ne_none _)) fun _ me _ => ⟨_, _, g', me _ _ en', Nat.le_trans (Nat.le_of_eq el') (by omega)⟩), trivial, q⟩
theorem set_exc0 {a C : Addr} {name : Str} {dv : V} {Q : Unit → S → Prop} (ok : Ok X n) (h1 : σ.hp a = some (.exc C none)) (ks : KExcSet X.K C name)
    (q : ∀ d, σ.hp d = none → Q () { σ with hp := upd (upd σ.hp a (.exc C (some d))) d (.dict [(name, dv)]) }) {σ₀ : S} {s₀ s : Shared} (P : Post X σ₀ s₀ σ s) {v : Value} (vm : VM σ.mu s.heap v dv) :
    wpAny (model X.prog X.w) X.A (setAttr (.ref a) name v) (Qw X σ₀ s₀ RU Q) (Ew X σ₀ s₀ E) s := by
  have st := P.st
  obtain ⟨⟨vs, a0, g1, v0, v1, v6⟩, _⟩ := st.own a _ h1
  have I : InstAt s.heap a { cls := .ref C, dict := none, data := .fields vs } C none := ⟨g1, rfl, rfl, trivial⟩
  have inK := st.inK ok
  refine set_plain inK I ks.set ?_
  obtain ⟨cd, hc, hdct, _⟩ := ks.cls
  refine osa_exc (s := { s with toks := s.toks + 1 }) inK I ks fun b => ?_
  refine wpAny_bind (wpAny_pure (wpAny_bind (wpAny_bind (wpAny_loadPart (o := { cls := .ref C, dict := none, data := .fields vs }) g1 ?_))))
  dsimp only
  refine wpAny_bind (looks_clsIn inK hc _ _ _ _ (fun _ _ e => e) ?_)
  rw [hdct]
  simp only [Bool.not_true, Bool.false_eq_true, if_false, Bool.or_false]
  have hnew : s.heap.get? s.heap.objs.size = none := Heap.get?_none_of_le (Nat.le_refl _)
  have an : a ≠ s.heap.objs.size := Nat.ne_of_lt (Heap.lt_size g1)
  refine wpAny_bind (wpAny_alloc ?_)
  have g1' := Heap.get?_push_of_some emptyDict g1
  refine wpAny_bind (wpAny_update g1' ?_)
  have g3 : ((s.heap.push emptyDict).update a fun o => { o with dict := some s.heap.objs.size }).get? a = some { cls := .ref C, dict := some s.heap.objs.size, data := .fields vs } := Heap.get?_update_self _ g1' rfl
  have g4 : ((s.heap.push emptyDict).update a fun o => { o with dict := some s.heap.objs.size }).get? s.heap.objs.size = some (dictOf [] 0) := (Heap.get?_update_other _ _ an).trans (Heap.get?_push_size _ rfl)
  refine wpAny_bind (wpAny_pure (wpAny_pure ?_))
  obtain ⟨m, hn, hm⟩ := st.names
  have aL : X.env.locals ≠ a := fun e => st.locOff (by rw [e]; show σ.hp a ≠ none; rw [h1]; exact Option.some_ne_none _)
  have dn := new_none st
  have dL : X.env.locals ≠ s.heap.objs.size := Nat.ne_of_lt hn.lt
  have P₁ := post_write (h' := s.heap.push emptyDict) (tk := s.toks) (a := s.heap.objs.size) (o := .dict []) ok st (fun b o _ _ g => Heap.get?_push_of_some _ g) ⟨m, hn.push _, hm⟩ (.inr hnew) fun _ _ _ => ⟨[], 0, Heap.get?_push_size _ rfl, .nil, by decide⟩
  have h1' : upd σ.hp s.heap.objs.size (.dict []) a = some (.exc C none) := (upd_ne an).trans h1
  obtain ⟨m₁, hn₁, hm₁⟩ := P₁.st.names
  have P₂ := post_write (h' := (s.heap.push emptyDict).update a fun o => { o with dict := some s.heap.objs.size }) (tk := s.toks + 1) (a := a) (o := .exc C (some s.heap.objs.size)) ok P₁.st (fun b o n1 _ g => (Heap.get?_update_other _ _ (Ne.symm n1)).trans g)
    ⟨m₁, hn₁.at' (fun o g => (Heap.get?_update_other _ _ (Ne.symm aL)).trans g), hm₁⟩ (.inl (by show upd σ.hp s.heap.objs.size (.dict []) a ≠ none; rw [h1']; exact Option.some_ne_none _)) fun _ _ _ => ⟨vs, a0, g3, v0, v1, v6⟩
  have P12 := P₁.trans P₂
  have vm₂ := vm.mono P12.ext
  refine store_in_dict (s := { s with heap := (s.heap.push emptyDict).update a fun o => { o with dict := some s.heap.objs.size }, toks := s.toks + 1 }) g4 rfl (by simp [putL]) fun h' hs g' => ?_
  obtain ⟨m₂, hn₂, hm₂⟩ := P₂.st.names
  have en' := (Ents.nil : Ents _ ((s.heap.push emptyDict).update a fun o => { o with dict := some s.heap.objs.size }) [] []).put (name := name) (hs := PyData.keyHash X.w.params name) (tk := s.toks + 1) vm₂
  have P₃ := post_write (h' := h') (tk := s.toks + 1 + 1) (a := s.heap.objs.size) (o := .dict [(name, dv)]) ok P₂.st (fun b o n1 _ g => (hs.2 b n1).trans g) ⟨m₂, hn₂.at' (fun o g => (hs.2 _ dL).trans g), hm₂⟩
    (.inl (by show upd (upd σ.hp s.heap.objs.size (.dict [])) a _ s.heap.objs.size ≠ none; rw [upd_ne (Ne.symm an), upd_self]; exact Option.some_ne_none _)) fun _ me _ => ⟨_, _, g', me _ _ en', by simp [putL]⟩
  have e : upd (upd (upd σ.hp s.heap.objs.size (.dict [])) a (.exc C (some s.heap.objs.size))) s.heap.objs.size (.dict [(name, dv)]) = upd (upd σ.hp a (.exc C (some s.heap.objs.size))) s.heap.objs.size (.dict [(name, dv)]) := by
    funext b; unfold upd; repeat' split
    all_goals rfl
  have PP := P.trans (P12.trans P₃)
  exact ⟨(), _, PP, trivial, by have := q _ dn; rwa [← e] at this⟩
end
end Mine
namespace Mine
open PySem PySem.W PySem.Calls PySem.Spec PyProof.Rows Builtin Builtin.ObjectAttr Builtin.BaseException
theorem own_init : classOwn (.type "Exception") "__init__" = pure (some (.builtin "Exception.__init__")) := by kernel_rfl
theorem slot_wd : Slot "wrapper_descriptor" "__get__" "wrapper_descriptor.__get__" :=
  .of (owner := "wrapper_descriptor") (n := "__get__") (by rw [typeLookup_type, builtinLookup_eq_fast]; kernel_rfl) (by decide +kernel) (by decide +kernel) (by decide +kernel)
    (by first | exact .inl (by decide +kernel) | exact .inr (by decide +kernel)) (by rw [isSubtype_type]; kernel_rfl)
theorem type_init : typeOf (.builtin "Exception.__init__") = pure (.type "wrapper_descriptor") := by show builtinType _ = _; rw [builtinType_eq_fast]; kernel_rfl
theorem entry_wd : entryFor table "wrapper_descriptor.__get__" = some Builtin.«wrapper_descriptor.__get__» := entryFor_of_tree (by kernel_rfl)
theorem args_wd (a b c : Value) : argsOk "wrapper_descriptor.__get__" ⟨[a, b, c], []⟩ := by unfold argsOk; kernel_rfl
theorem wd_get {prog : Program} {w : World} {A : Around} {s : Shared} {K : Frag} {x C : Addr} {R : Result → Shared → Prop} {ox : Obj} (X : K.In s.heap) (hx : s.heap.get? x = some ox) (hcx : ox.cls = .ref C) (hm : mroIn K C (.type "Exception") = some true)
    (h : R (.ok (.ret (.ref s.heap.objs.size))) { s with heap := s.heap.push { cls := .type "method-wrapper", data := .fields #[.builtin "Exception.__init__", .ref x] } }) : codeAny (model prog w) A (.call (.builtin "wrapper_descriptor.__get__") ⟨[.builtin "Exception.__init__", .ref x, .ref C], []⟩) R s := by
  obtain ⟨hh, g, dr, t, os⟩ := s
  have L0 : Looks (model prog w) hh (typeOf (.ref x)) (.ref C) := hcx ▸ (Looks.ld hx).andThen .now
  have L1 := looks_mroIn (M := model prog w) X hm
  refine codeAny_call_builtin slot_wd.plain entry_wd (slot_wd.check _ _ _ _ _ _ _ _ type_init (args_wd _ _ _) ?_)
  unfold Builtin.«wrapper_descriptor.__get__»
  have e : ".".intercalate ("Exception.__init__".cutAt '.').dropLast = "Exception" := by decide +kernel
  have L2 : Looks (model prog w) hh (isSubtype (.ref C) (.type (".".intercalate ("Exception.__init__".cutAt '.').dropLast))) true := by rw [e]; exact L1
  repeat lk
  exact h
theorem super_ga_init {prog : Program} {w : World} {A : Around} {E : Value → Shared → Prop} {h : Heap} {g : Array GenState} {d : Drawn} {t : Nat} {os : OsState} {K : Frag} {so D x C : Addr} {ox : Obj} {l₀ r : List Value} {tk : Tok} {Q : Fin → Shared → Prop}
    (hso : h.get? so = some { cls := .type "super", dict := none, data := .fields #[.ref D, .ref x, .ref C], slots := #[] }) (hno : Looks (model prog w) h (opaqueClassAbove (.ref C)) none)
    (hC : Looks (model prog w) h (mroOf (.ref C)) l₀) (hl : (l₀.dropWhile (· != .ref D)).drop 1 = .type "Exception" :: r) (X : K.In h) (hx : h.get? x = some ox) (hcx : ox.cls = .ref C) (hm : mroIn K C (.type "Exception") = some true) (hxC : x ≠ C)
    (hq : Q (.done (.ret (.ref h.objs.size))) ⟨h.push { cls := .type "method-wrapper", data := .fields #[.builtin "Exception.__init__", .ref x] }, g, d, t, os⟩) :
    wpAny (model prog w) A (Builtin.«super.__getattribute__» ⟨[.ref so, .str "__init__" tk], []⟩) Q E ⟨h, g, d, t, os⟩ := by
  have hne : (Value.ref x == Value.ref C) = false := by simp [hxC]
  have hdt : ({ cls := .type "super", dict := none, data := .fields #[.ref D, .ref x, .ref C], slots := #[] } : Obj).data = .fields #[.ref D, .ref x, .ref C] := rfl
  have f0 : (#[.ref D, .ref x, .ref C] : Array Value)[0]? = some (.ref D) := rfl
  have f1 : (#[.ref D, .ref x, .ref C] : Array Value)[1]? = some (.ref x) := rfl
  have f2 : (#[.ref D, .ref x, .ref C] : Array Value)[2]? = some (.ref C) := rfl
  have hn : (("__init__" : Str) == ("__class__" : Str)) = false := by decide
  have A0 := looks_field (M := model prog w) hso 0 f0
  have A1 := looks_field (M := model prog w) hso 1 f1
  have A2 := looks_field (M := model prog w) hso 2 f2
  have A3 : Looks (model prog w) h (notOfAnOpaqueClass (Str.toString "__init__") "" (.ref C)) () := fun A Q E s k q => by
    obtain ⟨hh, g, d, t, os⟩ := s
    exact ks_wpAny_notOpaque (hno.keeps k) q
  have A4 : Looks (model prog w) h (classOwn (.type "Exception") "__init__") (some (.builtin "Exception.__init__")) := .of_pure own_init
  have A5 : Looks (model prog w) h (typeOf (.builtin "Exception.__init__")) (.type "wrapper_descriptor") := .of_pure type_init
  have A6 : Looks (model prog w) h (typeLookup (.type "wrapper_descriptor") "__get__") (some (.builtin "wrapper_descriptor.__get__")) := .of_pure slot_wd.lookup
  have A7 : Looks (model prog w) h (asStr? (.str "__init__" tk)) (some "__init__") := .of_pure (by kernel_rfl)
  unfold Builtin.«super.__getattribute__»
  dsimp only
  refine wpAny_bind (A7.at ?_)
  simp only [Option.isNone_some, Bool.false_eq_true, if_false]
  refine wpAny_bind (A7.at ?_)
  dsimp only
  refine wpAny_bind (A0.at (wpAny_bind (A1.at (wpAny_bind (A2.at ?_)))))
  rw [if_neg (by simp [hn])]
  refine wpAny_bind (A3.at ?_)
  rw [if_neg (by simp)]
  refine wpAny_bind (hC.at ?_)
  rw [hl, List.forIn_cons]
  refine wpAny_bind (wpAny_bind (wpAny_bind (A4.at ?_)))
  dsimp only
  refine wpAny_bind (A5.at (wpAny_bind (A6.at ?_)))
  dsimp only
  rw [hne]
  simp only [Bool.false_eq_true, if_false]
  refine wpAny_bind (wpAny_holding (wpAny_call (wd_get X hx hcx hm (wpAny_bind (wpAny_pure (wpAny_pure (wpAny_pure (wpAny_pure hq))))))))
theorem getm_super {prog : Program} {w : World} {A : Around} {E : Value → Shared → Prop} {h : Heap} {g : Array GenState} {d : Drawn} {t : Nat} {os : OsState} {K : Frag} {so D x C : Addr} {ox : Obj} {l₀ r : List Value} {pl : Sem Bool} {Q : Value × List Value → Shared → Prop}
    (hso : h.get? so = some { cls := .type "super", dict := none, data := .fields #[.ref D, .ref x, .ref C], slots := #[] }) (hno : Looks (model prog w) h (opaqueClassAbove (.ref C)) none)
    (hC : Looks (model prog w) h (mroOf (.ref C)) l₀) (hl : (l₀.dropWhile (· != .ref D)).drop 1 = .type "Exception" :: r) (X : K.In h) (hx : h.get? x = some ox) (hcx : ox.cls = .ref C) (hm : mroIn K C (.type "Exception") = some true) (hxC : x ≠ C)
    (hq : Q (.ref h.objs.size, []) ⟨h.push { cls := .type "method-wrapper", data := .fields #[.builtin "Exception.__init__", .ref x] }, g, d, t + 1, os⟩) :
    wpAny (model prog w) A (getMethod (.ref so) "__init__" pl) Q E ⟨h, g, d, t, os⟩ := by
  have hlk := F.ks_slot_super_ga.lookup
  have hcan := F.ks_canon_super_ga
  have hT : ∀ t', (⟨h, g, d, t', os⟩ : Shared).TypeIs (.ref so) "super" := fun _ => ⟨_, hso, rfl⟩
  unfold getMethod
  refine wpAny_bind (wpAny_specialOf (hT _) hlk ?_)
  show wpAny _ _ (if (Manifest.canonical "super.__getattribute__" != "object.__getattribute__") = true then _ else _) _ _ _
  rw [if_pos hcan]
  unfold getAttr getAttrBy
  refine wpAny_bind (wpAny_bind (wpAny_mkText (wpAny_holding (wpAny_bind (wpAny_typeOf (hT _) (wpAny_bind (wpAny_of_eq hlk ?_)))))))
  show wpAny _ _ (getAttrByItsOwn (.ref so) (.str "__init__" t) (.type "super") (.builtin "super.__getattribute__") true false) _ _ _
  unfold getAttrByItsOwn hookBefore callGetattribute boundAndCalled
  refine wpAny_bind (wpAny_of_eq (show (if onTheHeap (.type "super") then typeLookup (.type "super") "__getattr__" else pure none) = pure none from rfl) ?_)
  refine wpAny_bind (wpAny_attempt (wpAny_holding ?_))
  show wpAny _ _ (bindSpecial (.builtin "super.__getattribute__") (.ref so) >>= _) _ _ _
  refine wpAny_bind (wpAny_of_eq (F.ks_slot_super_ga.bind _) ?_)
  refine wpAny_mono (Q := fun v s' => v = .ref h.objs.size ∧ s' = ⟨h.push { cls := .type "method-wrapper", data := .fields #[.builtin "Exception.__init__", .ref x] }, g, d, t + 1, os⟩) (E := fun _ _ => False)
    (wpAny_call_entry F.ks_slot_super_ga (hT _) F.ks_entry_super_ga (super_ga_init hso hno hC hl X hx hcx hm hxC ⟨_, rfl, rfl, rfl⟩) (F.ks_gaArgs_super _ _)) (fun v s' hv => ?_) fun _ _ z => z.elim
  obtain ⟨rfl, rfl⟩ := hv
  exact wpAny_pure (wpAny_pure hq)
theorem check_bound {M : Model} {A : Around} {E : Value → Shared → Prop} {h : Heap} {g : Array GenState} {d : Drawn} {t : Nat} {os : OsState} {e C : Addr} {oe : Obj} {v : Value} {Q : Unit → Shared → Prop}
    {nm q : Str} {N : Addr} {bs bm : List Value} {hdct : Bool} {sn : List Str} {sub : List Value} {ab : Bool} {col : Option Bool} {dd : Option Addr} {k0 k1 k2 k3 k5 : Option Value} {newId : String}
    (FB : ExcBaseFacts "Exception" newId "Exception.__init__" bm) (hC : h.get? C = some (excClassObj nm q C N bs bm hdct sn sub ab col dd k0 k1 k2 k3 k5 newId)) (he : h.get? e = some oe) (hcls : oe.cls = .ref C)
    (hq : Q () ⟨h, g, d, t, os⟩) : wpAny M A (checkBoundCall "Exception.__init__" ⟨[.ref e, v], []⟩) Q E ⟨h, g, d, t, os⟩ := by
  have hcB : (Value.ref C :: bm).contains (.type "Exception") = true := by rw [List.contains_cons, FB.hasB, Bool.or_true]
  have hshort := FB.noStar
  simp only [checkBoundCall, FB.initKind, FB.initRow]
  rw [if_pos (by decide)]
  repeat (first | (with_reducible refine wpAny_loadPart_at he ?_; rw [hcls]) | with_reducible refine wpAny_loadPart_at hC ?_ | (with_reducible refine wpAny_isSubtype_exc hC ?_; rw [hcB]) | wp_step)
  exact hq
section
variable {X : Cx} {n : Nat} {σ : S} {E : Value → S → Prop}
theorem call_wrapper {q a C : Addr} {od : Option Addr} {v : Value} {s : Shared} {σ₀ : S} {s₀ : Shared} {Q : V → S → Prop}
    {nm qn : Str} {N : Addr} {bs bm : List Value} {hdct : Bool} {sn : List Str} {sub : List Value} {ab : Bool} {col : Option Bool} {dd : Option Addr} {k0 k1 k2 k3 k5 : Option Value} {newId : String}
    (FB : ExcBaseFacts "Exception" newId "Exception.__init__" bm) (ok : Ok X n) (hC : X.K.lookup C = some (excClassObj nm qn C N bs bm hdct sn sub ab col dd k0 k1 k2 k3 k5 newId)) (P : Post X σ₀ s₀ σ s) (h1 : σ.hp a = some (.exc C od)) (gq : s.heap.get? q = some { cls := .type "method-wrapper", data := .fields #[.builtin "Exception.__init__", .ref a] })
    (qq : Q .none σ) : wpAny (model X.prog X.w) X.A (call (.ref q) [v]) (Qw X σ₀ s₀ VM Q) (Ew X σ₀ s₀ E) s := by
  obtain ⟨⟨vs, a0, g, v0, v1, v6⟩, _⟩ := P.st.own a _ h1
  have hC' := P.st.inK ok _ _ hC
  refine wpAny_call (codeAny_of_tree ?_)
  show wpAny _ _ (callAny (.ref q) _) _ _ _
  refine nd_load gq ?_
  show wpAny _ _ (checkBoundCall "Exception.__init__" ⟨[.ref a, v], []⟩ >>= fun _ => again (.builtin "Exception.__init__" ⟨[.ref a, v], []⟩)) _ _ _
  obtain ⟨hh, gn, dr, tk, os⟩ := s
  refine wpAny_bind (check_bound FB hC' g rfl ?_)
  refine wpAny_pure ⟨Code.quiet_builtin _ (by decide +kernel), ?_⟩
  refine codeAny_builtin FB.initEntry ?_
  unfold Builtin.«BaseException.__init__»
  dsimp only
  rw [if_neg (by decide)]
  unfold newTuple
  refine wpAny_bind (wpAny_newObj_type ?_ (by show [v].toArray.size ≤ sizeLine; rw [sizeLine_eq]; simp))
  have P₁ := st_push P.st { cls := .type "tuple", data := .seq [v].toArray }
  have g₁ := Heap.get?_push_of_some { cls := .type "tuple", data := .seq [v].toArray } g
  unfold bexcPut
  have hA : ∀ {A : Around}, wpAny (model X.prog X.w) A (do setField (.ref a) 0 (.ref hh.objs.size); if let .ref _ := a0 then letGo [a0] []) (fun _ s' => Qw X σ₀ s₀ VM Q .none s') (fun e s' => Ew X σ₀ s₀ E e s') ⟨hh.push { cls := .type "tuple", data := .seq [v].toArray }, gn, dr, tk, os⟩ := by
    intro A
    refine wpAny_bind (exc_field ok P₁.st h1 g₁ v0 v1 v6 (by decide) (by decide) fun h₂ b0 P₂ g₂ w0 w1 w6 => ?_)
    have PP := (P.trans P₁).trans P₂
    split
    · exact wpAny_letGo ⟨.none, σ, PP, .none, qq⟩
    · exact wpAny_pure ⟨.none, σ, PP, .none, qq⟩
  refine wpAny_bind (wpAny_bind (wpAny_field g₁ rfl v0 (wpAny_mono hA (fun _ s' z => ?_) fun _ _ z => z)))
  exact wpAny_pure z
structure KSup (X : Cx) (fI C : Addr) (sf : Str) : Prop where
  func : X.env.func = some fI
  fd : ∃ oc od fd osl ar, X.K.lookup fI = some ⟨oc, od, .func fd, osl⟩ ∧ (fd.params.posonlyargs ++ fd.params.args).head? = some ar ∧ ar.arg = sf
  code : ∃ c oc od vs sl file tf, X.env.code = .ref c ∧ X.K.lookup c = some ⟨oc, od, .fields vs, sl⟩ ∧ vs[2]? = some (.str file tf) ∧ ((X.prog.main.file : Str) == file) = true
  top : (X.prog.main.scope.names.lookup ("super" : Str)).isSome = false
  super : X.env.kindOf "super" = some .globalImplicit
  cls : X.env.kindOf "__class__" = some .free
  cell : ∃ cc oc od sl, X.env.cells.lookup ("__class__" : Str) = some cc ∧ X.K.lookup cc = some ⟨oc, od, .cell (some (.ref C)), sl⟩
  glob : nsIn X.K mainGlobals "super" = some none
  boot : bootBuiltins "super" = some (.type "super")
  sub : mroIn X.K C (.ref C) = some true
  exc : mroIn X.K C (.type "Exception") = some true
  opaq : nsIn X.K cStatics "thirdparty.any" = some none
  selfLoc : X.env.kindOf sf = some .local
theorem super_stmt {fI C a : Addr} {sf y : Str} {od : Option Addr} {body : List Stmt} {p0 p1 ap np pos pos' : Pos} {Q : FV → S → Prop} {dy : V}
    {nm qn : Str} {N : Addr} {bs bm : List Value} {hdct : Bool} {sn : List Str} {sub : List Value} {ab : Bool} {col : Option Bool} {dd : Option Addr} {k0 k1 k2 k3 k5 : Option Value} {newId : String} {r : List Value}
    (FB : ExcBaseFacts "Exception" newId "Exception.__init__" bm) (ok : Ok X n) (hC : X.K.lookup C = some (excClassObj nm qn C N bs bm hdct sn sub ab col dd k0 k1 k2 k3 k5 newId)) (hbm : bm = .type "Exception" :: r)
    (ks : KSup X fI C sf) (hself : lk σ.loc sf = some (.ref a)) (h1 : σ.hp a = some (.exc C od)) (hy : lk σ.loc y = some dy) (hyk : X.env.kindOf y = some .local) (hyd : (y == ("__debug__" : Str)) = false)
    (hline : (ap.endLine == pos.line) = true) (hsw : ∀ env, swapsWith (.Call (.Attribute (.Call (.Name "super" p0) [] [] p1) "__init__" ap) [.Name y np] [] pos) none pos'.line env = pure false) (q : Q .next σ) {σ₀ : S} {s₀ s : Shared} (P : Post X σ₀ s₀ σ s) :
    PySem.wpAt (model X.prog X.w) X.A (.func body X.env) (exec (.Expr (.Call (.Attribute (.Call (.Name "super" p0) [] [] p1) "__init__" ap) [.Name y np] [] pos) pos') X.env) (Qw X σ₀ s₀ FM Q) (Ew X σ₀ s₀ E) s := by
  have st := P.st
  obtain ⟨oc1, od1, fd, osl1, ar, hfd, har, hasf⟩ := ks.fd
  obtain ⟨c, oc2, od2, vs2, sl2, file, tf, hcode, hcl, hv2, hfile⟩ := ks.code
  obtain ⟨cc, oc3, od3, sl3, hcell, hcc⟩ := ks.cell
  obtain ⟨⟨vs, a0, g, v0, v1, v6⟩, _⟩ := st.own a _ h1
  have inK := st.inK ok
  have hCn : a ≠ C := fun e => by
    have gC := inK _ _ hC
    rw [← e, g] at gC
    injection gC with gC
    have := congrArg Obj.data gC
    simp [excClassObj] at this
  refine ks_wpAt_Expr_any ?_ (by unfold interactive; rw [ok.kind]; rfl) (hsw _)
  refine ks_wpAt_MethodCall (pl := do return (← importBound (.Call (.Name "super" p0) [] [] p1) X.env).getD true) ?_ ?_
  · refine ks_wpAt_super_base ks.super ks.cls (by decide) ks.func (inK _ _ hfd) rfl har hcode (inK _ _ hcl) rfl hv2 hfile ks.top ?_
    refine ks_loadName_global ok.kind ks.super (loadGlobal_builtin (ok.genv ▸ ok.top.g.keeps st.base) (mg_none_of ok.inK ok.top.g ks.glob) (ok.benv ▸ ok.top.b.keeps st.base) ((ok.top.builtins _ (by decide)).trans ks.boot) ⟨rfl, ?_⟩)
    have hcc' := inK _ _ hcc
    refine wpAny_loadName_free ok.kind ks.cls hcell ⟨_, hcc', rfl⟩ ?_
    obtain ⟨m, hn, hm⟩ := st.names
    obtain ⟨v, hv, vm⟩ := hm _ _ hself
    obtain rfl := vm.refI
    rw [hasf]
    refine wpAny_loadName_local ok.kind ks.selfLoc hn hv ?_
    obtain ⟨hh, gn, dr, tk, os⟩ := s
    dsimp only at inK g hn hm
    have gC := inK _ _ hC
    refine ks_wpAny_isType_cls gC rfl ⟨rfl, ?_⟩
    refine ks_wpAny_call_super gC rfl g rfl (fun c e => by cases e) (looks_mroIn inK ks.sub) fun h' hso hk => ?_
    have P₁ := Post.keeps (s := ⟨hh, gn, dr, tk, os⟩) st h' tk rfl hk
    have inK₁ := P₁.st.inK ok
    have gC₁ := hk _ _ gC
    have hroC : Looks (model X.prog X.w) h' (mroOf (.ref C)) (.ref C :: bm) := ((Looks.ld (part := none) gC₁).andThen .now).andThen .now
    refine getm_super (l₀ := .ref C :: bm) (r := r) hso (looks_opaque inK₁ ks.opaq) hroC ?_ inK₁ (hk _ _ g) rfl ks.exc hCn ?_
    · rw [hbm, List.dropWhile_cons_of_neg (by simp)]; rfl
    dsimp only
    have hw := Heap.get?_push_size h' (o := { cls := .type "method-wrapper", data := .fields #[.builtin "Exception.__init__", .ref a] }) rfl
    have P₂ := (P₁.trans (st_push P₁.st { cls := .type "method-wrapper", data := .fields #[.builtin "Exception.__init__", .ref a] })).trans (Post.keeps (s' := ⟨h'.push { cls := .type "method-wrapper", data := .fields #[.builtin "Exception.__init__", .ref a] }, gn, dr, tk + 1, os⟩) (st_push P₁.st _).st _ (tk + 1) rfl fun _ _ e => e)
    refine callWith_of (P := fun h => h.get? h'.objs.size = some { cls := .type "method-wrapper", data := .fields #[.builtin "Exception.__init__", .ref a] }) rfl (fun h e => ⟨.machine, .inr (.inl rfl), (Looks.ld e).andThen .now⟩) ?_
    obtain ⟨m₂, hn₂, hm₂⟩ := P₂.st.names
    obtain ⟨vy, hvy, vmy⟩ := hm₂ _ _ hy
    refine evalArgs_plain (spliced_cons (wpAny_Name (wpAny_loadName_local ok.kind hyk hn₂ hvy (spliced_nil ⟨hw, ?_⟩)) hyd))
    exact wpAny_mono (call_wrapper (Q := fun _ σ' => Q .next σ') FB ok hC (P.trans P₂) h1 hw q) (fun _ _ ⟨_, σ', P', _, q'⟩ => ⟨.next, σ', P', trivial, q'⟩) fun _ _ e => e
  · rw [arm_eval_Call]
    unfold methodCall calleeOf methodCallPos
    have e : methodCallForm ([Expr.Name y np].length + ([] : List Keyword).length) (backTo pos (starEach [.Name y np] X.env)) (backToKw pos (keywordEach [] X.env)) = true := rfl
    rw [e, hline]
    rfl
end
end Mine
namespace Mine
open PySem PySem.W PySem.Calls PySem.Spec PyProof.Rows
section
variable {X : Cx} {n : Nat} {σ : S} {E : Value → S → Prop}
theorem VM.strE {mu : Addr → Prop} {h : Heap} {x : Str} {t : Tok} {l : List Nat} (e : x.cps.toList = l) : VM mu h (.str x t) (.str l) := e ▸ .str x t
section ops
variable {a b : Int} {x y : List Nat} {Q : V → S → Prop}
theorem o_addi (q : Q (.int (a + b)) σ) : Op2 X (binaryOp .Add) (.int a) (.int b) σ Q E := fun _ _ _ st va wb => by
  obtain ⟨_, rfl⟩ := va.intI; obtain ⟨_, rfl⟩ := wb.intI; exact PyProof.Rows.add_int (qw_same st _ (.int _ _) q)
theorem o_subi (q : Q (.int (a - b)) σ) : Op2 X (binaryOp .Sub) (.int a) (.int b) σ Q E := fun _ _ _ st va wb => by
  obtain ⟨_, rfl⟩ := va.intI; obtain ⟨_, rfl⟩ := wb.intI; exact PyProof.Rows.sub_int (qw_same st _ (.int _ _) q)
theorem o_negi {Q : V → S → Prop} (q : Q (.int (-a)) σ) : Op1 X (unaryOp .USub) (.int a) σ Q E := fun _ _ st va => by
  obtain ⟨_, rfl⟩ := va.intI; exact PyProof.Rows.neg_int (qw_same st _ (.int _ _) q)
theorem o_modi (hb : b ≠ 0) (q : Q (.int (a.fmod b)) σ) : Op2 X (binaryOp .Mod) (.int a) (.int b) σ Q E := fun _ _ _ st va wb => by
  obtain ⟨_, rfl⟩ := va.intI; obtain ⟨_, rfl⟩ := wb.intI; exact PyProof.Rows.mod_int' hb (qw_same st _ (.int _ _) q)
theorem o_iaddi (q : Q (.int (a + b)) σ) : Op2 X (inplaceOp .Add) (.int a) (.int b) σ Q E := fun _ _ _ st va wb => by
  obtain ⟨_, rfl⟩ := va.intI; obtain ⟨_, rfl⟩ := wb.intI; exact wpAny_iadd_int (qw_same st _ (.int _ _) q)
theorem o_eqi (q : Q (.bool (a == b)) σ) : Op2 X (compareOp .Eq) (.int a) (.int b) σ Q E := fun _ _ _ st va wb => by
  obtain ⟨_, rfl⟩ := va.intI; obtain ⟨_, rfl⟩ := wb.intI; exact PyProof.Rows.eq_int (qw_self st (.bool _) q)
theorem o_nei (q : Q (.bool (a != b)) σ) : Op2 X (compareOp .NotEq) (.int a) (.int b) σ Q E := fun _ _ _ st va wb => by
  obtain ⟨_, rfl⟩ := va.intI; obtain ⟨_, rfl⟩ := wb.intI; exact PyProof.Rows.ne_int (qw_self st (.bool _) q)
theorem o_gti (q : Q (.bool (decide (b < a))) σ) : Op2 X (compareOp .Gt) (.int a) (.int b) σ Q E := fun _ _ _ st va wb => by
  obtain ⟨_, rfl⟩ := va.intI; obtain ⟨_, rfl⟩ := wb.intI; exact PyProof.Rows.gt_int (qw_self st (.bool _) q)
theorem catLen {x y : List Nat} (h : x.length + y.length ≤ 10000) : (⟨x.toArray⟩ : Str).length + (⟨y.toArray⟩ : Str).length ≤ sizeLine := by
  simp only [Str.length, List.size_toArray]; rw [sizeLine_eq]; omega
theorem cat_cps {x y : List Nat} : ((⟨x.toArray⟩ : Str) ++ (⟨y.toArray⟩ : Str)).cps.toList = x ++ y := by rw [PySem.Str.cps_append]; simp
theorem o_adds (h : x.length + y.length ≤ 10000) (q : Q (.str (x ++ y)) σ) : Op2 X (binaryOp .Add) (.str x) (.str y) σ Q E := fun _ _ _ st va wb => by
  obtain ⟨t, rfl⟩ := va.strI
  obtain ⟨u, rfl⟩ := wb.strI
  exact PyProof.Rows.add_str (fun t' tk => qw_same st _ (.strE cat_cps) q) (catLen h)
theorem o_iadds (h : x.length + y.length ≤ 10000) (q : Q (.str (x ++ y)) σ) : Op2 X (inplaceOp .Add) (.str x) (.str y) σ Q E := fun _ _ _ st va wb => by
  obtain ⟨t, rfl⟩ := va.strI
  obtain ⟨u, rfl⟩ := wb.strI
  exact SB.iadd (fun t' tk => qw_same st _ (.strE cat_cps) q) (catLen h)
theorem str_beq {x y : List Nat} : ((⟨x.toArray⟩ : Str) == ⟨y.toArray⟩) = (x == y) := by
  by_cases h : x = y
  · subst h; simp
  · have : (⟨x.toArray⟩ : Str) ≠ ⟨y.toArray⟩ := fun e => h (by have := congrArg (fun s => s.cps.toList) e; simpa using this)
    rw [beq_eq_false_iff_ne.mpr this, beq_eq_false_iff_ne.mpr h]
theorem o_eqs (q : Q (.bool (x == y)) σ) : Op2 X (compareOp .Eq) (.str x) (.str y) σ Q E := fun _ _ _ st va wb => by
  obtain ⟨t, rfl⟩ := va.strI
  obtain ⟨u, rfl⟩ := wb.strI
  exact PyProof.Rows.eq_str (qw_self st (.bool _) (by rw [str_beq]; exact q))
end ops
noncomputable def isN : V → Bool
  | .none => true
  | _ => false
noncomputable def known : V → Prop
  | .lit _ => False
  | _ => True
theorem isN_of {mu : Addr → Prop} {h : Heap} {v : Value} {d : V} (x : VM mu h v d) (k : known d) : (v == Value.none) = isN d := by
  cases x <;> first | rfl | exact k.elim
section ops
variable {d : V} {Q : V → S → Prop}
theorem o_isnone (k : known d) (q : Q (.bool (isN d)) σ) : Op2 X (compareOp .Is) d .none σ Q E := fun _ _ _ st va wb => by
  obtain rfl := wb.noneI
  refine is_none_gen (qw_self st (.bool _) ?_)
  rw [isN_of va k]; exact q
theorem o_notnone (k : known d) (q : Q (.bool (!isN d)) σ) : Op2 X (compareOp .IsNot) d .none σ Q E := fun _ _ _ st va wb => by
  obtain rfl := wb.noneI
  refine isnot_none_gen (qw_self st (.bool _) ?_)
  rw [isN_of va k]; exact q
end ops
section tr
variable {Q : Bool → S → Prop}
theorem t_bool {b : Bool} (q : Q b σ) : Tr X (.bool b) σ Q E := fun _ _ st va => by obtain rfl := va.boolI; exact wpAny_truthy_bool (qw_self st rfl q)
theorem t_none (q : Q false σ) : Tr X .none σ Q E := fun _ _ st va => by obtain rfl := va.noneI; exact wpAny_pure (qw_self st rfl q)
theorem t_str {x : List Nat} (h : x.length ≤ 10000) (q : Q (!x.isEmpty) σ) : Tr X (.str x) σ Q E := fun _ s st va => by
  obtain ⟨t, rfl⟩ := va.strI
  refine P.truthy_str (by simp only [Str.length, List.size_toArray]; omega) (qw_same st _ rfl ?_)
  have : (((⟨x.toArray⟩ : Str).length : Int) != 0) = !x.isEmpty := by cases x <;> simp [Str.length]; omega
  rw [this]; exact q
end tr
end
end Mine
namespace Mine
open PySem PySem.W PySem.Calls PySem.Spec PyProof.Rows
section
variable {X : Cx} {n : Nat} {σ : S} {E : Value → S → Prop}
section
open Builtin Builtin.Str
theorem gives_count4 (x y : Str) (i j : Nat) (t u v w : Tok) : ∃ c : Nat, c ≤ x.length + 1 ∧ Gives («str.count» ⟨[.str x t, .str y u, .int i v, .int j w], []⟩) (.int c) := by
  refine ⟨(occurrences x y (max 0 (if (i : Int) < 0 then (i : Int) + x.length else i)).toNat (min (max 0 (if (j : Int) < 0 then (j : Int) + x.length else j)).toNat x.length) (x.length + 1)).length, StrLaws.occ_length_le _ _ _ _ _, ?_⟩
  exact .of_eq rfl
theorem gives_rfind4 (x y : Str) (i j : Nat) (t u v w : Tok) (hy : 1 ≤ y.length) : ∃ c : Int, c ≤ j ∧ -1 ≤ c ∧ Gives («str.rfind» ⟨[.str x t, .str y u, .int i v, .int j w], []⟩) (.int c) := by
  have key := StrLaws.last_run x y (min (max 0 (if (j : Int) < 0 then (j : Int) + x.length else j)).toNat x.length) (List.range' (max 0 (if (i : Int) < 0 then (i : Int) + x.length else i)).toNat ((min (max 0 (if (j : Int) < 0 then (j : Int) + x.length else j)).toNat x.length) + 1 - (max 0 (if (i : Int) < 0 then (i : Int) + x.length else i)).toNat)) [] none (fun _ h => nomatch h) (fun _ h => nomatch h) (by simpa using List.pairwise_lt_range')
  rw [← StrLaws.last_eq] at key
  cases hr : lastOccurrence x y (max 0 (if (i : Int) < 0 then (i : Int) + x.length else i)).toNat (min (max 0 (if (j : Int) < 0 then (j : Int) + x.length else j)).toNat x.length) with
  | none =>
    refine ⟨-1, by omega, by omega, ?_⟩
    show Gives (match lastOccurrence x y (max 0 (if (i : Int) < 0 then (i : Int) + x.length else i)).toNat (min (max 0 (if (j : Int) < 0 then (j : Int) + x.length else j)).toNat x.length) with | some i => retInt i | none => (do rule "str.rfind.not-found"; retInt (-1))) _
    rw [hr]
    exact .rule (.of_eq rfl)
  | some a =>
    rw [hr] at key
    have h1 := key.1.1
    refine ⟨a, by split at h1 <;> omega, by omega, ?_⟩
    show Gives (match lastOccurrence x y (max 0 (if (i : Int) < 0 then (i : Int) + x.length else i)).toNat (min (max 0 (if (j : Int) < 0 then (j : Int) + x.length else j)).toNat x.length) with | some i => retInt i | none => (do rule "str.rfind.not-found"; retInt (-1))) _
    rw [hr]
    exact .of_eq rfl
end
theorem VMs.consI {mu : Addr → Prop} {h : Heap} {vs : List Value} {d : V} {ds : List V} (x : VMs mu h vs (d :: ds)) : ∃ v ws, vs = v :: ws ∧ VM mu h v d ∧ VMs mu h ws ds := by cases x with | cons a b => exact ⟨_, _, rfl, a, b⟩
theorem VMs.one {mu : Addr → Prop} {h : Heap} {vs : List Value} {d : V} (x : VMs mu h vs [d]) : ∃ v, vs = [v] ∧ VM mu h v d := by
  obtain ⟨v, ws, rfl, a, r⟩ := x.consI; cases r; exact ⟨v, rfl, a⟩
theorem VMs.two {mu : Addr → Prop} {h : Heap} {vs : List Value} {d e : V} (x : VMs mu h vs [d, e]) : ∃ v w, vs = [v, w] ∧ VM mu h v d ∧ VM mu h w e := by
  obtain ⟨v, ws, rfl, a, r⟩ := x.consI; obtain ⟨w, rfl, b⟩ := r.one; exact ⟨v, w, rfl, a, b⟩
theorem VMs.three {mu : Addr → Prop} {h : Heap} {vs : List Value} {d e f : V} (x : VMs mu h vs [d, e, f]) : ∃ v w u, vs = [v, w, u] ∧ VM mu h v d ∧ VM mu h w e ∧ VM mu h u f := by
  obtain ⟨v, ws, rfl, a, r⟩ := x.consI; obtain ⟨w, u, rfl, b, c⟩ := r.two; exact ⟨v, w, u, rfl, a, b, c⟩
theorem VMs.four {mu : Addr → Prop} {h : Heap} {vs : List Value} {d e f g : V} (x : VMs mu h vs [d, e, f, g]) : ∃ v w u z, vs = [v, w, u, z] ∧ VM mu h v d ∧ VM mu h w e ∧ VM mu h u f ∧ VM mu h z g := by
  obtain ⟨v, ws, rfl, a, r⟩ := x.consI; obtain ⟨w, u, z, rfl, b, c, e⟩ := r.three; exact ⟨v, w, u, z, rfl, a, b, c, e⟩
theorem gm_str {l : List Nat} {name : Str} {id : String} {Q : Value → List V → S → Prop} (slot : Slot "str" name id) (ty : typeOf (.builtin id) = pure (.type "method_descriptor")) (q : Q (.builtin id) [.str l] σ) : GetM X (.str l) name σ Q E := by
  intro v s pl st vm
  obtain ⟨t, rfl⟩ := vm.strI
  exact GM.of (.str _ t) (typeIs_str _ _ _) slot ty GM.noRef ⟨[.str l], σ, Post.refl st, .cons vm .nil, q⟩
section
variable {x y : List Nat} {Q : V → S → Prop}
theorem c_count4 {i j : Nat} (q : ∀ c : Nat, c ≤ x.length + 1 → Q (.int c) σ) : Call X (.builtin "str.count") [.str x, .str y, .int i, .int j] σ Q E := fun vs s st vm => by
  obtain ⟨_, _, _, _, rfl, a, b, c, d⟩ := vm.four
  obtain ⟨t, rfl⟩ := a.strI
  obtain ⟨u, rfl⟩ := b.strI
  obtain ⟨_, rfl⟩ := c.intI
  obtain ⟨_, rfl⟩ := d.intI
  obtain ⟨c, hc, g⟩ := gives_count4 ⟨x.toArray⟩ ⟨y.toArray⟩ i j t u _ _
  exact call_gives F.slot_str_count (typeIs_str _ _ _) F.entry_str_count (F.args_str_count_4 _ _ _ _) g (qw_same st _ (.int _ _) (q c (by simpa [Str.length] using hc)))
theorem c_rfind4 {i j : Nat} (hy : y ≠ []) (q : ∀ c : Int, c ≤ j → -1 ≤ c → Q (.int c) σ) : Call X (.builtin "str.rfind") [.str x, .str y, .int i, .int j] σ Q E := fun vs s st vm => by
  obtain ⟨_, _, _, _, rfl, a, b, c, d⟩ := vm.four
  obtain ⟨t, rfl⟩ := a.strI
  obtain ⟨u, rfl⟩ := b.strI
  obtain ⟨_, rfl⟩ := c.intI
  obtain ⟨_, rfl⟩ := d.intI
  obtain ⟨c, c1, c2, g⟩ := gives_rfind4 ⟨x.toArray⟩ ⟨y.toArray⟩ i j t u _ _ (by cases y with | nil => exact absurd rfl hy | cons _ _ => simp [Str.length])
  exact call_gives F.slot_str_rfind (typeIs_str _ _ _) F.entry_str_rfind (F.args_str_rfind_4 _ _ _ _) g (qw_same st _ (.int _ _) (q c c1 c2))
theorem c_isstr (q : Q (.bool true) σ) : Call X (.builtin "isinstance") [.str x, .lit (.type "str")] σ Q E := fun vs s st vm => by
  obtain ⟨_, _, rfl, a, b⟩ := vm.two
  obtain ⟨t, rfl⟩ := a.strI
  obtain rfl := b.litI
  exact call_isinstance_yes (typeIs_str _ _ _) (by kernel_rfl) (by rw [isSubtype_type]; kernel_rfl) (qw_self st (.bool _) q)
theorem c_lens (h : x.length ≤ 10000) (q : Q (.int x.length) σ) : Call X (.builtin "len") [.str x] σ Q E := fun vs s st vm => by
  obtain ⟨_, rfl, a⟩ := vm.one
  obtain ⟨t, rfl⟩ := a.strI
  refine PyProof.Rows.len_str (by simp only [Str.length, List.size_toArray]; omega) (qw_same st _ ?_ q)
  have : ((⟨x.toArray⟩ : Str).length) = x.length := by simp [Str.length]
  rw [this]; exact .int _ _
end
end
end Mine
namespace Mine
open PySem PySem.W PySem.Calls PySem.Spec PyProof.Rows
section
variable {X : Cx} {n : Nat} {σ : S} {E : Value → S → Prop}
set_option maxHeartbeats 8000000 in
theorem meets_pos (y : Str) (hy : y.length ≤ 1000000) (i : Int) (h0 : 0 ≤ i) (h1 : i < 10 ^ 10) (t u v : Tok) (b : Addr) :
    Meets (Builtin.«str.__mod__» ⟨[.str "%s at position %d" t, .ref b], []⟩) (fun _ R s => IsTup s.heap b #[.str y u, .int i v] ∧ ∀ t' k, R (.ok (.ret (.str (y ++ Str.ofString " at position " ++ Str.ofString (toString i)) t'))) { s with toks := k }) := by
  have hd : i.natAbs.log2 < 1920 := shown (N := 2 ^ 1920) (by omega) (by omega) (Int.le_refl _)
  apply KPt.meets_tup
  intro _ _ _ _ _ _ kptH _
  obtain ⟨kptO, kptG, kptC, kptN, kptD⟩ := kptH
  rw [KPt.entry_is_r]
  unfold Builtin.Str.percentFormat
  refine wpAny_bind (wpAny_isInstance (T := "tuple") ⟨kptO, kptG, kptC⟩ KPt.sub_tt ?_)
  refine wpAny_bind (KPt.asStr_ref kptG kptD ?_)
  refine wpAny_bind (KPt.fills_ref ⟨kptO, kptG, kptC⟩ ?_)
  intro _
  kpc_if
  refine wpAny_bind (wpAny_seqItems kptG kptD ?_)
  refine wpAny_bind (wpAny_pure ?_)
  refine wpAny_bind ?_
  rw [KPc.range_list]
  refine KPc.start ?_
  intro _ _
  refine KPc.turn ?_; kpc_check; (repeat kpc_if); refine wpAny_bind ?_; refine wpAny_holding ?_; (repeat kpc_if); kpt_conv; refine wpAny_pure ?_; refine wpAny_pure ?_; kpt_piece
  refine KPc.turn ?_; kpc_check; (repeat kpc_if); refine wpAny_pure ?_; refine KPc.after_add (y := Str.ofString " at position ") (by kpc_g) (by kernel_rfl) (by kpc_obj) ?_; intro _ _
  refine KPc.turn ?_; kpc_check; (repeat kpc_if); refine wpAny_bind ?_; refine wpAny_holding ?_; (repeat kpc_if); kpt_conv; refine wpAny_pure ?_; refine wpAny_pure ?_; kpt_piece
  refine KPc.turn ?_; kpc_check; (repeat kpc_if); kpc_close
end
end Mine
namespace Mine
open PySem PySem.W PySem.Calls PySem.Spec PyProof.Rows
section
variable {X : Cx} {n : Nat} {σ : S} {E : Value → S → Prop}
structure KExcGet (K : Frag) (C : Addr) (name : Str) : Prop where
  ga : findIn K (.ref C) "__getattribute__" = some (some (.builtin "BaseException.__getattribute__"))
  hook : findIn K (.ref C) "__getattr__" = some none
  base : mroIn K C (.type "BaseException") = some true
  dict : hasDictIn K C = true
  cls : ∃ attr, findIn K (.ref C) name = some attr ∧ noGet K attr = true
noncomputable def SetA (X : Cx) (o : V) (attr : Str) (d : V) (σ : S) (Q : S → Prop) (E : Value → S → Prop) : Prop :=
  ∀ ov v s, St X σ s.heap → VM σ.mu s.heap ov o → VM σ.mu s.heap v d → wpAny (model X.prog X.w) X.A (setAttr ov attr v) (Qw X σ s RU (fun _ => Q)) (Ew X σ s E) s
theorem sa_inst {a C dx : Addr} {fs : List (Str × V)} {name : Str} {d : V} {Q : S → Prop} (ok : Ok X n) (h1 : σ.hp a = some (.inst C dx)) (h2 : σ.hp dx = some (.dict fs)) (ks : KSet X.K C name)
    (hlen : fs.length ≤ 90) (q : Q { σ with hp := upd σ.hp dx (.dict (updF fs name d)) }) : SetA X (.ref a) name d σ Q E := fun _ _ _ st om vm => by
  cases om
  exact set_field (Q := fun _ => Q) ok h1 h2 ks hlen q (Post.refl st) vm
theorem sa_exc1 {a C dx : Addr} {fs : List (Str × V)} {name : Str} {d : V} {Q : S → Prop} (ok : Ok X n) (h1 : σ.hp a = some (.exc C (some dx))) (h2 : σ.hp dx = some (.dict fs)) (ks : KExcSet X.K C name)
    (hlen : fs.length ≤ 90) (q : Q { σ with hp := upd σ.hp dx (.dict (updF fs name d)) }) : SetA X (.ref a) name d σ Q E := fun _ _ _ st om vm => by
  cases om
  exact set_exc1 (Q := fun _ => Q) ok h1 h2 ks hlen q (Post.refl st) vm
theorem sa_exc0 {a C : Addr} {name : Str} {d : V} {Q : S → Prop} (ok : Ok X n) (h1 : σ.hp a = some (.exc C none)) (ks : KExcSet X.K C name)
    (q : ∀ dx, σ.hp dx = none → Q { σ with hp := upd (upd σ.hp a (.exc C (some dx))) dx (.dict [(name, d)]) }) : SetA X (.ref a) name d σ Q E := fun _ _ _ st om vm => by
  cases om
  exact set_exc0 (Q := fun _ => Q) ok h1 ks q (Post.refl st) vm
theorem WX_SetAttr {e : Expr} {x attr : Str} {xp p' pos : Pos} {Q : FV → S → Prop}
    (h : WE X e σ (fun d σ₁ => WE X (.Name x xp) σ₁ (fun od σ₂ => SetA X od attr d σ₂ (Q .next) E) E) E)
    (hs : ∀ env, swapsWith e (some (.Attribute (.Name x xp) attr p')) pos.line env = pure false) : WX X (.Assign [.Attribute (.Name x xp) attr p'] e pos) σ Q E := fun _ st =>
  plainObj_wpAny_Assign_Attribute (h.run (Post.refl st) fun v s₁ d σ₁ _ P₁ vm h₁ => h₁.run P₁ fun ov s₂ od σ₂ p₂ P₂ om h₂ =>
    wpAny_mono (h₂ ov v s₂ P₂.st om (vm.mono p₂.ext)) (fun _ _ ⟨_, σ', P', _, q'⟩ => ⟨.next, σ', P₂.trans P', trivial, q'⟩) fun _ _ e => e.after P₂) (hs _)
noncomputable def WAt {α β : Type} (X : Cx) (body : List Stmt) (t : Sem α) (R : (Addr → Prop) → Heap → α → β → Prop) (σ : S) (Q : β → S → Prop) (E : Value → S → Prop) : Prop :=
  ∀ s, St X σ s.heap → PySem.wpAt (model X.prog X.w) X.A (.func body X.env) t (Qw X σ s R Q) (Ew X σ s E) s
theorem WAt.hide {α β : Type} {body : List Stmt} {t : Sem α} {R : (Addr → Prop) → Heap → α → β → Prop} {Q : β → S → Prop} (h : ∀ Q' E', (∀ b σ', Q b σ' → Q' b σ') → (∀ c σ', E c σ' → E' c σ') → WAt X body t R σ Q' E') : WAt X body t R σ Q E := h Q E (fun _ _ q => q) fun _ _ q => q
theorem WAt_cons {body : List Stmt} {st : Stmt} {rest : List Stmt} {Q : FV → S → Prop} (h : WX X st σ (fun f σ₁ => match f with | .next => WAt X body (execs rest X.env) FM σ₁ Q E | f => Q f σ₁) E) : WAt X body (execs (st :: rest) X.env) FM σ Q E := fun _ sst =>
  ks_wpAt_execs_cons (PySem.wpAt_of_wpAny (h.run (Post.refl sst) fun f s₁ g σ₁ _ P₁ r q => by
    cases f <;> cases g <;> first | exact r.elim | exact ks_wpAt_mono (q s₁ P₁.st) (fun _ _ z => z.after P₁) (fun _ _ z => z.after P₁) | exact ⟨_, _, P₁, r, q⟩))
theorem WAt_last {body : List Stmt} {st : Stmt} {Q : FV → S → Prop} (h : WAt X body (exec st X.env) FM σ Q E) : WAt X body (execs [st] X.env) FM σ Q E := fun s sst =>
  ks_wpAt_execs_cons (ks_wpAt_mono (h s sst) (fun f s₁ z => by
    obtain ⟨g, σ₁, P₁, r, q⟩ := z
    cases f <;> cases g <;> first | exact r.elim | exact PySem.wpAt_of_wpAny (wpAny_execs_nil (⟨FV.next, σ₁, P₁, trivial, q⟩ : Qw X σ s FM Q Flow.next s₁)) | exact ⟨_, _, P₁, r, q⟩) fun _ _ z => z)
theorem code_fnAt {fd : FuncData} {f : Addr} {body : List Stmt} {A' : Around} {R : Result → Shared → Prop} {s : Shared} {args : Args} {binds : List (Str × Value)} {loc0 : List (Str × V)} {Qb : FV → S → Prop} {Eb : Value → S → Prop}
    (ok : Ok X (n + 1)) (hf : FnIs X.K f fd body) (hA : Under X A') (st : St X σ s.heap) (hb : BindsTo s fd args binds) (hl : ∀ y ∈ binds, fd.scope.names.lookup y.1 = some .local)
    (hm : ∀ x d, lk loc0 x = some d → ∃ v, binds.reverse.lookup x = some v ∧ VM σ.mu s.heap v d)
    (h : ∀ L, Ok (X.into A' fd f L) n → WAt (X.into A' fd f L) body (execs body (X.into A' fd f L).env) FM ⟨loc0, σ.hp⟩ Qb Eb)
    (ret : ∀ v s' fl σ', Post X σ s ⟨σ.loc, σ'.hp⟩ s' → VM σ'.mu s'.heap v (retV fl) → Qb fl σ' → R (.ok (.ret v)) s')
    (exc : ∀ e s' cls σ', Post X σ s ⟨σ.loc, σ'.hp⟩ s' → ExcAt X σ'.mu s'.heap e cls → Eb cls σ' → R (.error (.ref e)) s') : codeAny (model X.prog X.w) A' (.call (.ref f) args) R s := by
  obtain ⟨oc, od, osl, hat⟩ := hf.at_
  have inK := ok.inK.keeps st.base
  have hroom : A'.depth < recursionLimit := by have := ok.depth; have := hA.depth; omega
  refine ks_codeAny_call_defAt (fd := fd) (body := body) (binds := binds) hroom (inK _ _ hat) rfl (ok.top.nolimit.keeps st.base) (codeRec_of inK hf.code) hf.body hb hf.cell hl (fun h₀ hn hk => ?_) hf.co hf.gen hf.kind
  have bL : X.base.objs.size ≤ s.heap.objs.size := by
    obtain ⟨m, hn, _⟩ := st.names
    exact Nat.le_trans ok.above (Nat.le_of_lt hn.lt)
  have pL : s.heap.objs.size ∉ X.prot := fun hp => by
    obtain ⟨_, o, vs, g, _⟩ := st.prot _ hp
    exact absurd (Heap.lt_size g) (Nat.lt_irrefl _)
  have ok' := ok_into (L := s.heap.objs.size) ok hf hA bL pL
  have st' := enter (A' := A') hf st hn hk hm
  refine ks_wpAt_mono (h s.heap.objs.size ok' { s with heap := h₀, toks := s.toks + binds.length } st') (fun fl s' q => ?_) fun e s' q => ?_
  · obtain ⟨g, σ', P, r, q⟩ := q
    have P' := post_back st hk P
    refine ret _ s' g σ' P' ?_ q
    cases fl <;> cases g <;> first | exact r.elim | exact VM.none | exact r
  · obtain ⟨ea, cls, σ', P, rfl, x, q⟩ := q
    refine leave_any ok' rfl P.st x fun h' P₂ x₂ => ?_
    have P' := post_back st hk (P.trans P₂)
    refine exc ea _ cls σ' P' ?_ q
    obtain ⟨a, b, oe, vs, a0, T, oT, ts, g, c, d, v0, v1, bT, pT, ne, gT, dT, v3⟩ := x₂
    exact ⟨a, b, oe, vs, a0, g, c, d, v0, .inr ⟨T, oT, ts, v1, bT, pT, ne, gT, dT, .inl v3⟩⟩
end
end Mine
namespace Mine
open PySem PySem.W PySem.Calls PySem.Spec PyProof.Rows
section
variable {X : Cx} {n : Nat} {σ : S} {E : Value → S → Prop}
theorem under_tc (X : Cx) (C : Addr) (rest : List Value) : Under X (X.A.under (.builtin "type.__call__" ⟨.ref C :: rest, []⟩)) where
  frames := by
    show pushEnvs (Code.envs (.builtin "type.__call__" ⟨.ref C :: rest, []⟩)) X.A.frames = X.A.frames
    have e : Code.envs (.builtin "type.__call__" ⟨.ref C :: rest, []⟩) = [] := rfl
    rw [e]; rfl
  depth := by
    show X.A.depth + Code.weight (.builtin "type.__call__" ⟨.ref C :: rest, []⟩) ≤ _
    have e : Code.weight (.builtin "type.__call__" ⟨.ref C :: rest, []⟩) = 1 := rfl
    omega
  units := by
    show X.A.units + Code.cUnits (.builtin "type.__call__" ⟨.ref C :: rest, []⟩) ≤ _
    have e : Code.cUnits (.builtin "type.__call__" ⟨.ref C :: rest, []⟩) = 1 := rfl
    omega
  handled := rfl
structure KMakeExc (K : Frag) (C fI : Addr) : Prop where
  call : specialIn K (.ref C) "__call__" = some (some (.builtin "type.__call__"))
  type : instIn K (.ref C) (.type "type") = some true
  self : subIn K (.ref C) (.ref C) = some true
  init : findIn K (.ref C) "__init__" = some (some (.ref fI))
  fn : typeIn K (.ref fI) = some (.type "function")
theorem Call.exc {fI C : Addr} {fd : FuncData} {body : List Stmt} {ds : List V} {loc0 : Addr → List (Str × V)} {Q : V → S → Prop}
    {nm qn : Str} {N : Addr} {bs bm : List Value} {hdct : Bool} {sn : List Str} {sub : List Value} {ab : Bool} {col : Option Bool} {dd : Option Addr} {k0 k1 k2 k3 k5 : Option Value} {B newId initId : String}
    (FB : ExcBaseFacts B newId initId bm) (ok : Ok X (n + 1)) (hC : X.K.lookup C = some (excClassObj nm qn C N bs bm hdct sn sub ab col dd k0 k1 k2 k3 k5 newId)) (km : KMakeExc X.K C fI) (hf : FnIs X.K fI fd body) (hlen : ds.length ≤ 100)
    (hb : ∀ a vs s (mu : Addr → Prop), X.K.In s.heap → VMs mu s.heap vs (.ref a :: ds) → ∃ binds, BindsTo s fd ⟨vs, []⟩ binds ∧ (∀ y ∈ binds, fd.scope.names.lookup y.1 = some .local) ∧ (∀ x d, lk (loc0 a) x = some d → ∃ v, binds.reverse.lookup x = some v ∧ VM mu s.heap v d))
    (h : ∀ A' a L, Under X A' → σ.hp a = none → Ok (X.into A' fd fI L) n → WAt (X.into A' fd fI L) body (execs body (X.into A' fd fI L).env) FM ⟨loc0 a, upd σ.hp a (.exc C none)⟩ (fun fl σ' => retV fl = .none ∧ Q (.ref a) ⟨σ.loc, σ'.hp⟩) (fun c σ' => E c ⟨σ.loc, σ'.hp⟩)) : Call X (.ref C) ds σ Q E := by
  intro vs s st vm
  obtain ⟨hh, gn, dr, tk, os⟩ := s
  have inK := st.inK ok
  have hC' := inK _ _ hC
  have P₁ := st_push st { cls := .type "tuple", data := .seq vs.toArray }
  have nn := new_none P₁.st
  have P₂ := post_write (h' := (hh.push { cls := .type "tuple", data := .seq vs.toArray }).push { cls := .ref C, data := .fields #[.ref hh.objs.size, .none, .none, .none, .bool false, .none] }) (tk := tk) (a := hh.objs.size + 1) (o := .exc C none) ok P₁.st
    (fun b o _ _ e => Heap.get?_push_of_some _ e) (by obtain ⟨m, hn, hm⟩ := P₁.st.names; exact ⟨m, hn.push _, hm⟩) (.inr (by have := Heap.get?_none_of_le (h := hh.push { cls := .type "tuple", data := .seq vs.toArray }) (Nat.le_refl _); rwa [Heap.size_push] at this))
    fun _ _ _ => ⟨_, _, by heap_get, rfl, rfl, rfl⟩
  have PP := P₁.trans P₂
  refine wpAny_call (exc_core FB hC' (looks_specialIn inK km.call) (looks_instIn inK km.type) (looks_subIn inK km.self) (looks_findIn inK km.init) (fun self => bind_fn inK self km.fn) (by rw [vm.length, sizeLine_eq]; omega) ?_)
  have vm' : VMs (S.mu { σ with hp := upd σ.hp (hh.objs.size + 1) (.exc C none) }) ((hh.push { cls := .type "tuple", data := .seq vs.toArray }).push { cls := .ref C, data := .fields #[.ref hh.objs.size, .none, .none, .none, .bool false, .none] }) (.ref (hh.objs.size + 1) :: vs) (.ref (hh.objs.size + 1) :: ds) := .cons (.ref _) (vm.mono PP.ext)
  obtain ⟨binds, b1, b2, b3⟩ := hb (hh.objs.size + 1) _ ⟨(hh.push { cls := .type "tuple", data := .seq vs.toArray }).push { cls := .ref C, data := .fields #[.ref hh.objs.size, .none, .none, .none, .bool false, .none] }, gn, dr, tk, os⟩ _ (P₂.st.inK ok) vm'
  refine code_fnAt (σ := { σ with hp := upd σ.hp (hh.objs.size + 1) (.exc C none) }) ok hf (under_tc X C vs) P₂.st b1 b2 b3 (fun L ok' => h _ _ L (under_tc X C vs) (by rw [Heap.size_push] at nn; exact nn) ok') (fun v s' fl σ' P r q => ?_) fun e s' cls σ' P x q => ?_
  · rw [q.1] at r
    cases r
    exact ⟨rfl, .ref _, _, PP.trans P, .ref _, q.2⟩
  · exact ⟨e, cls, _, PP.trans P, rfl, x, q⟩
structure KMake (K : Frag) (C fI : Addr) : Prop where
  makes : makesIn K C = true
  init : findIn K (.ref C) "__init__" = some (some (.ref fI))
  fn : typeIn K (.ref fI) = some (.type "function")
theorem Call.make {fI C : Addr} {fd : FuncData} {body : List Stmt} {ds : List V} {loc0 : Addr → List (Str × V)} {Q : V → S → Prop}
    (ok : Ok X (n + 1)) (km : KMake X.K C fI) (hf : FnIs X.K fI fd body)
    (hb : ∀ a vs s (mu : Addr → Prop), X.K.In s.heap → VMs mu s.heap vs (.ref a :: ds) → ∃ binds, BindsTo s fd ⟨vs, []⟩ binds ∧ (∀ y ∈ binds, fd.scope.names.lookup y.1 = some .local) ∧ (∀ x d, lk (loc0 a) x = some d → ∃ v, binds.reverse.lookup x = some v ∧ VM mu s.heap v d))
    (h : ∀ A' a dx L, Under X A' → σ.hp a = none → σ.hp dx = none → a ≠ dx → Ok (X.into A' fd fI L) n → WXs (X.into A' fd fI L) body ⟨loc0 a, upd (upd σ.hp dx (.dict [])) a (.inst C dx)⟩ (fun fl σ' => retV fl = .none ∧ Q (.ref a) ⟨σ.loc, σ'.hp⟩) (fun c σ' => E c ⟨σ.loc, σ'.hp⟩)) : Call X (.ref C) ds σ Q E := by
  intro vs s st vm
  obtain ⟨hh, gn, dr, tk, os⟩ := s
  have inK := st.inK ok
  have n0 := new_none st
  have P₁ := post_write (h' := hh.push emptyDict) (tk := tk) (a := hh.objs.size) (o := .dict []) ok st (fun b o _ _ e => Heap.get?_push_of_some _ e) (by obtain ⟨m, hn, hm⟩ := st.names; exact ⟨m, hn.push _, hm⟩) (.inr (Heap.get?_none_of_le (Nat.le_refl _)))
    fun _ _ _ => ⟨[], 0, Heap.get?_push_size _ rfl, .nil, by decide⟩
  have nn := new_none P₁.st
  have P₂ := post_write (h' := (hh.push emptyDict).push (instObj C hh.objs.size)) (tk := tk) (a := hh.objs.size + 1) (o := .inst C hh.objs.size) ok P₁.st
    (fun b o _ _ e => Heap.get?_push_of_some _ e) (by obtain ⟨m, hn, hm⟩ := P₁.st.names; exact ⟨m, hn.push _, hm⟩) (.inr (by have := Heap.get?_none_of_le (h := hh.push emptyDict) (Nat.le_refl _); rwa [Heap.size_push] at this))
    fun _ _ _ => (by show Heap.get? _ _ = _; heap_get)
  have PP := P₁.trans P₂
  refine wpAny_call (make_core (makes_of inK km.makes) (looks_findIn inK km.init) (fun self => bind_fn inK self km.fn) (.inl rfl) ?_)
  have vm' : VMs (S.mu { σ with hp := upd (upd σ.hp hh.objs.size (.dict [])) (hh.objs.size + 1) (.inst C hh.objs.size) }) ((hh.push emptyDict).push (instObj C hh.objs.size)) (.ref (hh.objs.size + 1) :: vs) (.ref (hh.objs.size + 1) :: ds) := .cons (.ref _) (vm.mono PP.ext)
  obtain ⟨binds, b1, b2, b3⟩ := hb (hh.objs.size + 1) _ ⟨(hh.push emptyDict).push (instObj C hh.objs.size), gn, dr, tk, os⟩ _ (P₂.st.inK ok) vm'
  have nn' : σ.hp (hh.objs.size + 1) = none := by
    rw [Heap.size_push] at nn
    have : upd σ.hp hh.objs.size (.dict []) (hh.objs.size + 1) = none := nn
    rwa [upd_ne (Nat.succ_ne_self _)] at this
  refine code_fn (σ := { σ with hp := upd (upd σ.hp hh.objs.size (.dict [])) (hh.objs.size + 1) (.inst C hh.objs.size) }) ok hf (under_tc X C vs) P₂.st b1 b2 b3 (fun L ok' => h _ _ _ L (under_tc X C vs) nn' n0 (Nat.succ_ne_self _) ok') (fun v s' fl σ' P r q => ?_) fun e s' cls σ' P x q => ?_
  · rw [q.1] at r
    cases r
    exact ⟨rfl, .ref _, _, PP.trans P, .ref _, q.2⟩
  · exact ⟨e, cls, _, PP.trans P, rfl, x, q⟩
end
end Mine
namespace Mine
open PySem PySem.W PySem.Calls PySem.Spec PyProof.Rows
section
variable {X : Cx} {n : Nat} {σ : S} {E : Value → S → Prop}
noncomputable def slc {α : Type} (l : List α) (lo hi : Option Int) : List α := (l.drop (kms_lo lo l.length)).take (kms_hi hi l.length - kms_lo lo l.length)
theorem slc_len {α : Type} (l : List α) (lo hi : Option Int) : (slc l lo hi).length ≤ l.length := by unfold slc; simp; omega
theorem clamp_neg {x : Int} {n : Nat} (h : x < 0) : max 0 (min (x + n) n) = ((n - (-x).toNat : Nat) : Int) := by
  obtain ⟨k, rfl⟩ : ∃ k : Nat, x = -(k : Int) := ⟨(-x).toNat, by rw [Int.toNat_of_nonneg (Int.neg_nonneg_of_nonpos (Int.le_of_lt h)), Int.neg_neg]⟩
  rw [Int.neg_neg, Int.toNat_natCast, ← Int.toNat_sub, Int.toNat_eq_max, Int.min_eq_left (by omega), Int.max_comm, Int.add_comm]; rfl
theorem clamp_pos {x : Int} {n : Nat} (h : ¬ x < 0) : max 0 (min x n) = ((min x.toNat n : Nat) : Int) := by
  obtain ⟨k, rfl⟩ := Int.eq_ofNat_of_zero_le (Int.not_lt.mp h)
  rw [Int.toNat_natCast]
  rcases Nat.le_total k n with h1 | h1
  · rw [Nat.min_eq_left h1, Int.min_eq_left (Int.ofNat_le.mpr h1), Int.max_eq_right (Int.natCast_nonneg k)]
  · rw [Nat.min_eq_right h1, Int.min_eq_right (Int.ofNat_le.mpr h1), Int.max_eq_right (Int.natCast_nonneg n)]
theorem idx_eq (lo hi : Option Int) (n : Nat) : Builtin.Str.strSliceIndices lo hi 1 n = (List.range (kms_hi hi n - kms_lo lo n)).map (kms_lo lo n + ·) := by
  unfold Builtin.Str.strSliceIndices
  have h1 : (1 : Int) > 0 := by decide
  simp only [h1, if_true]
  rw [← sliceRange_one]
  congr 1
  · cases lo with
    | none => rfl
    | some x =>
      by_cases h : x < 0
      · simp only [kms_lo, if_pos h]; exact clamp_neg h
      · simp only [kms_lo, if_neg h]; exact clamp_pos h
  · cases hi with
    | none => rfl
    | some x =>
      by_cases h : x < 0
      · simp only [kms_hi, if_pos h]; exact clamp_neg h
      · simp only [kms_hi, if_neg h]; exact clamp_pos h
theorem slice_eq (x : Str) (lo hi : Option Int) : (Txt.slice x lo hi).cps.toList = slc x.cps.toList lo hi := by
  unfold Txt.slice
  have hl : (Builtin.Str.strSliceIndices lo hi 1 x.length).length = kms_hi hi x.length - kms_lo lo x.length := by rw [idx_eq]; simp
  have hx : x.length = x.cps.toList.length := by rw [Array.length_toList]; rfl
  split
  · rename_i q
    simp only [beq_self_eq_true, Bool.true_and, beq_iff_eq] at q
    rw [hl] at q
    have hh : kms_hi hi x.length ≤ x.length := by unfold kms_hi; split <;> (try split) <;> omega
    unfold slc
    rw [← hx]
    have e0 : kms_lo lo x.length = 0 ∨ x.length = 0 := by omega
    rcases e0 with e0 | e0
    · rw [e0] at q ⊢
      rw [q, List.drop_zero, List.take_of_length_le (Nat.le_of_eq hx.symm)]
    · have : x.cps.toList = [] := List.length_eq_zero_iff.mp (hx ▸ e0)
      rw [this]; simp
  · show ((Builtin.Str.strSliceIndices lo hi 1 x.length).filterMap (x.cps[·]?)).toArray.toList = _
    rw [idx_eq, List.toList_toArray, pick_run]
    unfold slc
    rw [hx]
theorem slicePick_slc (items : Array Value) (lo hi : Option Int) : slicePick items lo hi none = (slc items.toList lo hi).toArray := kms_pick_eq items lo hi
inductive IsP : V → Option Int → Prop
  | none : IsP .none none
  | int (i : Int) : IsP (.int i) (some i)
theorem IsP.inv {d : V} {i : Option Int} (x : IsP d i) : (d = V.none ∧ i = Option.none) ∨ ∃ k, d = V.int k ∧ i = Option.some k := by
  cases x with
  | none => exact .inl ⟨rfl, rfl⟩
  | int k => exact .inr ⟨k, rfl, rfl⟩
theorem IsP.part {mu : Addr → Prop} {h : Heap} {v : Value} {d : V} {i : Option Int} (x : IsP d i) (m : VM mu h v d) : IsPart v i := by
  rcases x.inv with ⟨rfl, rfl⟩ | ⟨k, rfl, rfl⟩
  · obtain rfl := m.noneI; constructor
  · obtain ⟨t, rfl⟩ := m.intI; constructor
noncomputable abbrev WP (X : Cx) (x : Option Expr) (σ : S) (Q : V → S → Prop) (E : Value → S → Prop) : Prop := W X (evalPart x X.env) VM σ Q E
theorem WP_none {Q : V → S → Prop} (q : Q .none σ) : WP X none σ Q E := fun _ st => evalPart_none_step (qw_self st .none q)
theorem WP_some {e : Expr} {Q : V → S → Prop} (h : WE X e σ Q E) : WP X (some e) σ Q E := fun s st => evalPart_some_step (h s st)
theorem keptAll {h₀ : Heap} : KeptH (fun h => ∀ b o, h₀.get? b = some o → h.get? b = some o) := fun _ ob F b o e => Heap.get?_push_of_some ob (F b o e)
inductive SlcQ {α : Type} (A : List α → Prop) (lo hi : V) (Q : List α → Option Int → Option Int → Prop) : Prop
  | mk (l : List α) (i j : Option Int) (e : A l) (hl : l.length ≤ 10000) (h1 : IsP lo i) (h2 : IsP hi j) (q : Q l i j)
theorem W_SliceStr {value : Expr} {lower upper : Option Expr} {p pos : Pos} {Q : V → S → Prop}
    (h : WE X value σ (fun a σ₁ => WP X lower σ₁ (fun lo σ₂ => WP X upper σ₂ (fun hi σ₃ => SlcQ (fun l => a = .str l) lo hi fun l i j => Q (.str (slc l i j)) σ₃) E) E) E)
    (ht : ∀ x t r, letTemporaryGo value (.str x t) r = pure ()) :
    WE X (.Subscript value (.Slice lower upper none p) pos) σ Q E := fun s st => by
  refine Subscript_ (h.run (Post.refl st) fun v s₁ a σ₁ _ P₁ va h₁ => wpAny_Slice (h₁.run P₁ fun vl s₂ lo σ₂ p₂ P₂ vlo h₂ => h₂.run P₂ fun vu s₃ hi σ₃ p₃ P₃ vhi h₃ => ?_))
  obtain ⟨l, i, j, rfl, hlen, pi, pj, q⟩ := h₃
  obtain ⟨t, rfl⟩ := va.strI
  rw [evalPart_none]
  refine wpAny_pure ?_
  have hsz : (⟨l.toArray⟩ : Str).length ≤ sizeLine := by simp only [Str.length, List.size_toArray]; rw [sizeLine_eq]; omega
  have fin : ∀ h' t' k, (∀ b o, s₃.heap.get? b = some o → h'.get? b = some o) → Qw X σ s VM Q (.str (Txt.slice ⟨l.toArray⟩ i j) t') { s₃ with heap := h', toks := k } := fun h' t' k kk =>
    ⟨_, σ₃, P₃.trans (Post.keeps P₃.st h' k rfl kk), .strE (by rw [slice_eq]), q⟩
  rcases pi.inv with ⟨rfl, rfl⟩ | ⟨k1, rfl, rfl⟩ <;> rcases pj.inv with ⟨rfl, rfl⟩ | ⟨k2, rfl, rfl⟩
  · obtain rfl := vlo.noneI
    obtain rfl := vhi.noneI
    exact tail_of_ItemOn (SBH.sliceItem_nn keptAll (fun _ _ e => e) fin hsz) (by with_unfolding_all rfl) (ht _ _)
  · obtain rfl := vlo.noneI
    obtain ⟨_, rfl⟩ := vhi.intI
    exact tail_of_ItemOn (SBH.sliceItem_ns keptAll (fun _ _ e => e) fin hsz) (by with_unfolding_all rfl) (ht _ _)
  · obtain ⟨_, rfl⟩ := vlo.intI
    obtain rfl := vhi.noneI
    exact tail_of_ItemOn (SBH.sliceItem_sn keptAll (fun _ _ e => e) fin hsz) (by with_unfolding_all rfl) (ht _ _)
  · obtain ⟨_, rfl⟩ := vlo.intI
    obtain ⟨_, rfl⟩ := vhi.intI
    exact tail_of_ItemOn (SBH.sliceItem_ss keptAll (fun _ _ e => e) fin hsz) (by with_unfolding_all rfl) (ht _ _)
theorem VMs.drop {mu : Addr → Prop} {h : Heap} {vs : List Value} {ds : List V} (x : VMs mu h vs ds) (k : Nat) : VMs mu h (vs.drop k) (ds.drop k) := by
  induction k generalizing vs ds with
  | zero => exact x
  | succ k ih => cases x with
    | nil => simp; exact .nil
    | cons a r => simpa using ih r
theorem VMs.take {mu : Addr → Prop} {h : Heap} {vs : List Value} {ds : List V} (x : VMs mu h vs ds) (k : Nat) : VMs mu h (vs.take k) (ds.take k) := by
  induction k generalizing vs ds with
  | zero => simp; exact .nil
  | succ k ih => cases x with
    | nil => simp; exact .nil
    | cons a r => simpa using .cons a (ih r)
theorem VMs.slc {mu : Addr → Prop} {h : Heap} {vs : List Value} {ds : List V} (x : VMs mu h vs ds) (lo hi : Option Int) : VMs mu h (slc vs lo hi) (slc ds lo hi) := by
  unfold Mine.slc
  rw [x.length]
  exact (x.drop _).take _
inductive Lst (σ : S) : V → List V → Prop
  | val (ds : List V) : Lst σ (.lst ds) ds
  | own (a : Addr) (ds : List V) (e : σ.hp a = some (.lst ds)) : Lst σ (.ref a) ds
theorem Lst.get {h : Heap} {v : Value} {d : V} {ds : List V} (l : Lst σ d ds) (st : St X σ h) (x : VM σ.mu h v d) : ∃ a o vs n, v = .ref a ∧ h.get? a = some o ∧ o.cls = .type "list" ∧ o.data = .seq vs.toArray n ∧ VMs σ.mu h vs ds := by
  cases l with
  | val => obtain ⟨a, o, vs, n, e, g, c, d, _, r⟩ := x.lstI; exact ⟨a, o, vs, n, e, g, c, d, r⟩
  | own a ds e =>
    obtain rfl := x.refI
    obtain ⟨⟨vs, n, g, r⟩, _⟩ := st.own a _ e
    exact ⟨a, _, vs, n, rfl, g, rfl, rfl, r⟩
theorem W_SliceLst {value : Expr} {lower upper : Option Expr} {p pos : Pos} {Q : V → S → Prop}
    (h : WE X value σ (fun a σ₁ => WP X lower σ₁ (fun lo σ₂ => WP X upper σ₂ (fun hi σ₃ => SlcQ (Lst σ₃ a) lo hi fun l i j => Q (.lst (slc l i j)) σ₃) E) E) E)
    (ht : ∀ o r, letTemporaryGo value o r = pure ()) :
    WE X (.Subscript value (.Slice lower upper none p) pos) σ Q E := fun s st => by
  refine wpAny_Subscript_list_slice (h.run (Post.refl st) fun v s₁ a σ₁ _ P₁ va h₁ => h₁.run P₁ fun vl s₂ lo σ₂ p₂ P₂ vlo h₂ => h₂.run P₂ fun vu s₃ hi σ₃ p₃ P₃ vhi h₃ => ?_) ht
  obtain ⟨l, i, j, hll, hlen, pi, pj, q⟩ := h₃
  obtain ⟨b, o, vs, k, rfl, g, c, d, vm⟩ := hll.get P₃.st ((va.mono p₂.ext).mono p₃.ext)
  have ip : IsPart vl i := pi.part vlo
  have jp : IsPart vu j := pj.part vhi
  refine ⟨b, vs.toArray, i, j, rfl, ⟨o, g, c, k, d⟩, by rw [List.size_toArray, vm.length, sizeLine_eq]; omega, ip, jp, ?_⟩
  have P₄ := (st_push P₃.st { cls := .type "slice", data := .fields #[vl, vu, .none] })
  have P₅ := st_push P₄.st { cls := .type "list", data := .seq (slicePick vs.toArray i j none) }
  have PP := P₃.trans (P₄.trans P₅)
  have g5 := Heap.get?_push_size (s₃.heap.push { cls := .type "slice", data := .fields #[vl, vu, .none] }) (o := { cls := .type "list", data := .seq (slicePick vs.toArray i j none) }) rfl
  rw [Heap.size_push] at g5
  refine ⟨_, σ₃, PP, .lst g5 rfl (by rw [slicePick_slc]) (fun m => ?_) ((vm.mono (P₄.trans P₅).ext).slc i j), q⟩
  have := new_off P₄.st
  rw [Heap.size_push] at this
  exact this m
theorem W_Sub {value slice : Expr} {pos : Pos} {Q : V → S → Prop} (h : WE X value σ (fun a σ₁ => WE X slice σ₁ (fun b σ₂ => Op2 X (subscriptTail value slice) a b σ₂ Q E) E) E) : WE X (.Subscript value slice pos) σ Q E := fun _ st =>
  Subscript_ (h.run (Post.refl st) fun _ _ _ _ _ P₁ va h₁ => h₁.run P₁ fun _ _ _ _ p₂ P₂ vb h₂ => h₂.go P₂ (va.mono p₂.ext) vb)
theorem fits_ssize {i : Int} (h0 : -100000 ≤ i) (h : i ≤ 100000) : fitsSsize i = true := by unfold fitsSsize; simp; omega
theorem item_cps {l : List Nat} {k : Nat} {c : Nat} (e : l[k]? = some c) : (Txt.item ⟨l.toArray⟩ (k : Int)).cps.toList = [c] := by
  unfold Txt.item Txt.charAt seqIndex?
  have hk := (List.getElem?_eq_some_iff.mp e).1
  have e1 : ¬ ((k : Int) < 0) := by omega
  have e2 : (⟨l.toArray⟩ : Str).length = l.length := by simp [Str.length]
  simp [e1, e2, hk, e]
  obtain ⟨_, h2⟩ := List.getElem?_eq_some_iff.mp e
  exact h2
theorem new_exc {s : Shared} {h' : Heap} {tk : Nat} {e : Addr} {T : String} (st : St X σ s.heap) (N : Heap.NewExc s.heap h' e T) : Post X σ s σ { s with heap := h', toks := tk } ∧ ExcAt X σ.mu h' e (.type T) := by
  have P : Post X σ s σ { s with heap := h', toks := tk } := Post.keeps st h' tk rfl N.keeps
  obtain ⟨ob, t, g, c, d⟩ := N.there
  refine ⟨P, ⟨?_, fun m => ?_⟩, fun hp => ?_, ob, _, t, g, c, d, ⟨rfl, fun _ => rfl⟩, .inl rfl⟩
  · cases q : X.base.get? e with
    | none => rfl
    | some o => have := st.base e o q; rw [N.new] at this; cases this
  · cases q : σ.hp e with
    | none => exact m q
    | some o => obtain ⟨ob, g⟩ := (st.own e o q).1.there; rw [N.new] at g; cases g
  · obtain ⟨_, o, ws, g, _⟩ := st.prot e hp
    rw [N.new] at g; cases g
theorem s_strItem {l : List Nat} {k : Nat} {value slice : Expr} {Q : V → S → Prop} (ok : Ok X n) (hc : X.ctx = none) (hl : l.length ≤ 10000) (hk : k ≤ 10000) (q : match l[k]? with | some c => Q (.str [c]) σ | none => E (.type "IndexError") σ)
    (hs : ∀ x t i u, subscripted slice false (.str x t) (.int i u) = operate [.str x t, .int i u] (getItem (.str x t) (.int i u)))
    (ht : ∀ x t r, letTemporaryGo value (.str x t) r = pure ()) : Op2 X (subscriptTail value slice) (.str l) (.int k) σ Q E := fun v w s st va wb => by
  obtain ⟨t, rfl⟩ := va.strI
  obtain ⟨_, rfl⟩ := wb.intI
  have hlen : (⟨l.toArray⟩ : Str).length = l.length := by simp [Str.length]
  refine item_str_or (by rw [ok.handled, hc]; rfl) (fits_ssize (by omega) (by omega)) (fun ho h' tk e N => ?_) (fun h1 h2 => ?_) (hs _ _ _ _) (ht _ _)
  · rw [hlen] at ho
    have : l[k]? = none := List.getElem?_eq_none (by omega)
    rw [this] at q
    obtain ⟨P, x⟩ := new_exc (tk := tk) st N
    exact ⟨e, _, σ, P, rfl, x, q⟩
  · rw [hlen] at h2
    have hk' : k < l.length := by omega
    have e : l[k]? = some l[k] := List.getElem?_eq_getElem hk'
    rw [e] at q
    exact qw_same st _ (.strE (item_cps e)) q
end
end Mine
namespace Mine
open PySem PySem.W PySem.Calls PySem.Spec PyProof.Rows
section
variable {X : Cx} {n : Nat} {σ : S} {E : Value → S → Prop}
structure Sub (σ' σ : S) : Prop where
  loc : ∀ x d, lk σ'.loc x = some d → lk σ.loc x = some d
  hp : ∀ a o, σ'.hp a = some o → σ.hp a = some o
theorem noted_Ew {σ₀ : S} {s₀ s : Shared} {e : Value} (ok : Ok X n) (he : X.env = X.fenv) (h : Ew X σ₀ s₀ E e s) : notedBy (model X.prog X.w) X.A X.env (fun e s' => cameBackBy (model X.prog X.w) X.A X.env (Ew X σ₀ s₀ E) e s') e s := by
  obtain ⟨ea, cls, σ', P, rfl, x, q⟩ := h
  exact noted_back ok he P.st x P q ok.frames
theorem WX_While {test : Expr} {body orelse : List Stmt} {pos : Pos} {Q : FV → S → Prop} (ok : Ok X n) (he : X.env = X.fenv) (I : Nat → S → Prop)
    (turn : ∀ k σ, I k σ → WT X test σ (fun b σ₁ => if b then WXs X body σ₁ (fun f σ₂ => match f with | .next => ∃ m, m < k ∧ I m σ₂ | .cont => ∃ m, m < k ∧ I m σ₂ | .brk => Q .next σ₂ | .ret d => Q (.ret d) σ₂) E else WXs X orelse σ₁ Q E) E)
    (k : Nat) (h : I k σ) : WX X (.While test body orelse pos) σ Q E := fun s st => by
  refine wpAny_While (codeAny_whileLoop (fun k s' => ∃ σ', Post X σ s σ' s' ∧ I k σ') (fun k s₁ hI => ?_) k ⟨σ, Post.refl st, h⟩)
  obtain ⟨σ₁, P₁, i₁⟩ := hI
  refine wpAny_mono ((turn k σ₁ i₁).run P₁ (Q' := fun b s₂ => if b then wpAny (model X.prog X.w) X.A (execs body X.env) (fun f s₃ => match f with
            | .next | .cont => ∃ m, m < k ∧ ∃ σ', Post X σ s σ' s₃ ∧ I m σ'
            | .brk => Qw X σ s FM Q .next s₃
            | .ret v => Qw X σ s FM Q (.ret v) s₃) (Ew X σ s E) s₂
        else wpAny (model X.prog X.w) X.A (execs orelse X.env) (fun f s₃ => Qw X σ s FM Q f s₃) (Ew X σ s E) s₂) fun b s₂ b' σ₂ _ P₂ e q => ?_) (fun b s₂ q => ?_) fun e s₂ q => noted_Ew ok he q
  · subst e
    cases b
    · simp only [Bool.false_eq_true, if_false] at q ⊢
      exact q.go P₂
    · simp only [if_true] at q ⊢
      refine q.run P₂ fun f s₃ g σ₃ _ P₃ r q => ?_
      cases f <;> cases g <;> first | exact r.elim | skip
      · obtain ⟨m, hm, im⟩ := q
        exact ⟨m, hm, σ₃, P₃, im⟩
      · exact ⟨FV.next, σ₃, P₃, trivial, q⟩
      · obtain ⟨m, hm, im⟩ := q
        exact ⟨m, hm, σ₃, P₃, im⟩
      · exact ⟨_, σ₃, P₃, r, q⟩
  · cases b
    · simp only [Bool.false_eq_true, if_false] at q ⊢
      exact wpAny_mono q (fun _ _ z => z) fun _ _ z => noted_Ew ok he z
    · simp only [if_true] at q ⊢
      exact wpAny_mono q (fun f _ z => by cases f <;> exact z) fun _ _ z => noted_Ew ok he z
inductive Iter (X : Cx) (σ : S) (h : Heap) (I : Addr) (n : Nat) (ds : Nat → V) : Prop
  | mk (fp wr : List Addr) (P : Nat → Value → Prop) (St : Nat → Heap → Prop) (hW : ∀ A' : Around, A'.handled = none → Walks X.prog X.w A' I fp wr n P St) (st0 : St 0 h) (hrec : ∀ i h', St i h' → ∀ b ∈ wr, ∃ o vs, h'.get? b = some o ∧ o.data = .fields vs)
    (hwr : ∀ b ∈ wr, X.base.get? b = none ∧ ¬ σ.mu b ∧ b ∉ X.prot) (hfp : ∀ b ∈ fp, b ∉ wr → ¬ σ.mu b ∧ ∃ o, h.get? b = some o ∧ isSeq o.data)
    (hvm : ∀ i v mu' h', i < n → P i v → SeqX σ.mu h mu' h' → VM mu' h' v (ds i))
noncomputable def Itb (X : Cx) (a : V) (σ : S) (n : Nat) (ds : Nat → V) : Prop := ∀ v s (Q : Value → Shared → Prop) (E' : Value → Shared → Prop), St X σ s.heap → VM σ.mu s.heap v a →
  (∀ I s', Post X σ s σ s' → Iter X σ s'.heap I n ds → Q (.ref I) s') → wpAny (model X.prog X.w) X.A (pyIter v) Q E' s
noncomputable def Cx.watch (X : Cx) (wr : List Addr) : Cx := { X with prot := wr ++ X.prot }
theorem ok_watch {wr : List Addr} (ok : Ok X n) (h : X.env.locals ∉ wr) : Ok (X.watch wr) n :=
  ⟨ok.inK, ok.top, ok.frames, ok.frame, ok.eframe, ok.kind, ok.genv, ok.benv, ok.above, (fun q => (List.mem_append.mp q).elim h ok.locProt), ok.handled, (fun p q => List.mem_append_right _ (ok.ctxIn p q)), ok.depth, ok.units⟩
theorem st_watch {h : Heap} {wr : List Addr} (hc : X.ctx = none) (st : St X σ h) (hw : ∀ b ∈ wr, ¬ σ.mu b ∧ ∃ o vs, h.get? b = some o ∧ o.data = .fields vs) : St (X.watch wr) σ h :=
  ⟨st.base, st.names, st.own, st.locOff, (fun a ha => (List.mem_append.mp ha).elim (fun q => let ⟨z, o, vs, g, d⟩ := hw a q; ⟨z, o, vs, g, d, fun e => by have e' : X.ctx = some (a, true) := e; rw [hc] at e'; cases e'⟩) fun q => st.prot a q), st.frs⟩
theorem st_unwatch {h : Heap} {wr : List Addr} (st : St (X.watch wr) σ h) : St X σ h := ⟨st.base, st.names, st.own, st.locOff, fun a ha => st.prot a (List.mem_append_right _ ha), st.frs⟩
theorem post_unwatch {s s' : Shared} {σ' : S} {wr : List Addr} (P : Post (X.watch wr) σ s σ' s') : Post X σ s σ' s' :=
  ⟨P.upd, ⟨P.ext.seq, P.ext.obj, fun a ha => P.ext.watch a (List.mem_append_right _ ha)⟩, st_unwatch P.st⟩
theorem exc_unwatch {mu : Addr → Prop} {h : Heap} {e : Addr} {wr : List Addr} {cls : Value} (x : ExcAt (X.watch wr) mu h e cls) : ExcAt X mu h e cls := by
  obtain ⟨a, pe, oe, vs, a0, g, c, d, v0, hx⟩ := x
  refine ⟨a, fun q => pe (List.mem_append_right _ q), oe, vs, a0, g, c, d, v0, ?_⟩
  rcases hx with v1 | ⟨T, oT, ts, v1, bT, pT, r⟩
  · exact .inl v1
  · exact .inr ⟨T, oT, ts, v1, bT, (fun q => pT (List.mem_append_right _ q)), r⟩
inductive ItAt (X : Cx) (σ : S) (s : Shared) (Q : Nat → (Nat → V) → S → Prop) (it : Value) (s₂ : Shared) : Prop
  | mk (I : Addr) (N : Nat) (ds : Nat → V) (σ₂ : S) (e : it = .ref I) (P : Post X σ s σ₂ s₂) (IT : Iter X σ₂ s₂.heap I N ds) (q : Q N ds σ₂)
noncomputable def WIt (X : Cx) (iter : Expr) (σ : S) (Q : Nat → (Nat → V) → S → Prop) (E : Value → S → Prop) : Prop :=
  ∀ s, St X σ s.heap → wpAny (model X.prog X.w) X.A (eval iter X.env) (fun x s₁ => wpAny (model X.prog X.w) X.A (pyIter x) (ItAt X σ s Q) (Ew X σ s E) s₁) (Ew X σ s E) s
theorem wit_val {iter : Expr} {Q : Nat → (Nat → V) → S → Prop} (h : WE X iter σ (fun a σ₁ => ∃ N ds, Itb X a σ₁ N ds ∧ Q N ds σ₁) E) : WIt X iter σ Q E := fun s st =>
  h.run (Post.refl st) fun v s₁ a σ₁ _ P₁ va ⟨N, ds, itb, q⟩ => itb v s₁ _ _ P₁.st va fun J s₂ P₂ IT => ⟨J, N, ds, σ₁, rfl, P₁.trans P₂, IT, q⟩
theorem new_facts {s : Shared} (st : St X σ s.heap) : X.base.get? s.heap.objs.size = none ∧ ¬ σ.mu s.heap.objs.size ∧ s.heap.objs.size ∉ X.prot := by
  refine ⟨?_, new_off st, fun hp => ?_⟩
  · cases q : X.base.get? s.heap.objs.size with
    | none => rfl
    | some o => exact absurd (Heap.lt_size (st.base _ o q)) (Nat.lt_irrefl _)
  · obtain ⟨_, o, vs, g, _⟩ := st.prot _ hp
    exact absurd (Heap.lt_size g) (Nat.lt_irrefl _)
theorem itb_lst {ds : List V} : Itb X (.lst ds) σ ds.length (fun i => ds.getD i .none) := fun v s Q E' st vm q => by
  obtain ⟨a, o, vs, n, rfl, g, c, d, nm, vms⟩ := vm.lstI
  refine wpAny_pyIter_list (items := vs.toArray) ⟨o, g, c, n, d⟩ (q _ _ (st_push st _) ?_)
  have P := st_push st { cls := .type "list_iterator", data := .fields #[.ref a, .int 0 0] }
  have ga := Heap.get?_push_of_some { cls := .type "list_iterator", data := .fields #[.ref a, .int 0 0] } g
  have ne : a ≠ s.heap.objs.size := Nat.ne_of_lt (Heap.lt_size g)
  have hsz : vs.toArray.size = ds.length := by rw [List.size_toArray, vms.length]
  refine ⟨[s.heap.objs.size, a], [s.heap.objs.size], fun i v => vs.toArray[i]? = some v, fun i h => h.IsListIter s.heap.objs.size a i ∧ h.IsList a vs.toArray, fun A' hA => by rw [← hsz]; exact Walks.list hA _ _ ne _, ⟨⟨_, Heap.get?_push_size _ rfl, rfl, rfl⟩, ⟨o, ga, c, n, d⟩⟩, fun i h' ⟨⟨o, g, c, d⟩, _⟩ b hb => ?_, fun b hb => ?_, fun b hb nb => ?_, fun i v mu' h' hi e x => ?_⟩
  · rw [List.mem_singleton.mp hb]; exact ⟨o, _, g, d⟩
  · rw [List.mem_singleton.mp hb]; exact new_facts st
  · rcases List.mem_cons.mp hb with rfl | hb
    · exact absurd (.head _) nb
    · rw [List.mem_singleton.mp hb]; exact ⟨nm, o, ga, by rw [d]; trivial⟩
  · have e' : vs[i]? = some v := by simpa using e
    obtain ⟨dv, e2, vm'⟩ := vms.get' e'
    have vm'' := (vm'.mono P.ext).monoS x
    show VM mu' h' v (ds.getD i .none)
    rw [List.getD_eq_getElem?_getD, e2]; exact vm''
end
end Mine
namespace Mine
open PySem PySem.W PySem.Calls PySem.Spec PyProof.Rows
section
variable {X : Cx} {n : Nat} {σ : S} {E : Value → S → Prop}
inductive IterT (X : Cx) (σ : S) (h : Heap) (I : Addr) (n : Nat) (d1 d2 : Nat → V) : Prop
  | mk (fp wr : List Addr) (Pt : Nat → Array Value → Prop) (SS : Nat → Heap → Prop) (Mid : Nat → Addr → Heap → Prop) (hW : ∀ A' : Around, A'.handled = none → WalksU X.prog X.w A' I fp wr n Pt SS Mid) (st0 : SS 0 h) (hrec : ∀ i h', SS i h' → ∀ b ∈ wr, ∃ o vs, h'.get? b = some o ∧ o.data = .fields vs)
    (hrec2 : ∀ i T h', Mid i T h' → ∀ b ∈ wr, ∃ o vs, h'.get? b = some o ∧ o.data = .fields vs)
    (hwr : ∀ b ∈ wr, X.base.get? b = none ∧ ¬ σ.mu b ∧ b ∉ X.prot) (hfp : ∀ b ∈ fp, b ∉ wr → ¬ σ.mu b ∧ ∃ o, h.get? b = some o ∧ isSeq o.data)
    (hvm : ∀ i vals mu' h', i < n → Pt i vals → SeqX σ.mu h mu' h' → ∃ v w, vals = #[v, w] ∧ VM mu' h' v (d1 i) ∧ VM mu' h' w (d2 i))
inductive ItAtT (X : Cx) (σ : S) (s : Shared) (Q : Nat → (Nat → V) → (Nat → V) → S → Prop) (it : Value) (s₂ : Shared) : Prop
  | mk (I : Addr) (N : Nat) (d1 d2 : Nat → V) (σ₂ : S) (e : it = .ref I) (P : Post X σ s σ₂ s₂) (IT : IterT X σ₂ s₂.heap I N d1 d2) (q : Q N d1 d2 σ₂)
noncomputable def WItT (X : Cx) (iter : Expr) (σ : S) (Q : Nat → (Nat → V) → (Nat → V) → S → Prop) (E : Value → S → Prop) : Prop :=
  ∀ s, St X σ s.heap → wpAny (model X.prog X.w) X.A (eval iter X.env) (fun x s₁ => wpAny (model X.prog X.w) X.A (pyIter x) (ItAtT X σ s Q) (Ew X σ s E) s₁) (Ew X σ s E) s
end
end Mine
namespace Mine
open PySem PySem.W PySem.Calls PySem.Spec PyProof.Rows
section
variable {X : Cx} {n : Nat} {σ : S} {E : Value → S → Prop}
theorem call_raw {pos : Pos} {f : Value} {trees : List (Bool × Sem Value)} {Q : Value → Shared → Prop} {E' : Value → Shared → Prop} {s : Shared} {A : Around} (hk : Keeps X f) (hplain : trees.any (·.1) = false)
    (main : wpAny (model X.prog X.w) A (spliced trees) (fun vs s₁ => X.K.In s₁.heap ∧ wpAny (model X.prog X.w) A (call f vs) Q E' s₁) E' s) : wpAny (model X.prog X.w) A (callWith pos f [] trees []) Q E' s := by
  refine callWith_of (P := X.K.In) (by rw [hplain]; rfl) hk ?_
  cases trees with
  | nil =>
    unfold evalArgs
    show wpAny _ _ (spliced [] >>= _) _ _ s
    refine wpAny_bind (wpAny_mono main (fun vs s' h' => ?_) fun _ _ x => x)
    refine wpAny_holding ?_
    exact wpAny_bind (wpAny_pure (wpAny_bind (wpAny_pure (wpAny_pure h'))))
  | cons t r =>
    obtain ⟨b, t⟩ := t
    cases b
    · exact evalArgs_plain main
    · simp at hplain
structure KB (X : Cx) (x : Str) (v : Value) : Prop where
  kind : X.env.kindOf x = some .globalImplicit
  glob : nsIn X.K mainGlobals x = some none
  boot : bootBuiltins x = some v
theorem W_kb {x : Str} {pos : Pos} {v : Value} {Q : V → S → Prop} (ok : Ok X n) (k : KB X x v) (hn : x ≠ "__name__") (q : Q (.lit v) σ) (hd : (x == ("__debug__" : Str)) = false) : WE X (.Name x pos) σ Q E :=
  W_builtin ok k.kind k.glob k.boot hn q hd
inductive RngQ (ds : List V) (P : Nat → Prop) : Prop
  | mk (b : Nat) (e : ds = [.int b]) (hb : b ≤ 100000) (q : P b)
theorem wit_range1 {e : Expr} {np pos : Pos} {Q : Nat → (Nat → V) → S → Prop} (ok : Ok X n) (k : KB X "range" (.type "range")) (hplain : ∀ env, (backTo pos (starEach [e] env)).any (·.1) = false)
    (h : W X (spliced (backTo pos (starEach [e] X.env))) VMs σ (fun ds σ₁ => RngQ ds fun b => Q b (fun i => .int i) σ₁) E) : WIt X (.Call (.Name "range" np) [e] [] pos) σ Q E := fun s st => by
  refine wpAny_Call_NameR ((W_kb (Q := fun f σ' => f = .lit (.type "range") ∧ σ' = σ) ok k (by decide) ⟨rfl, rfl⟩ (by decide)).run (Post.refl st) fun v s₁ f σ₁ _ P₁ vm h₁ => ?_)
  obtain ⟨rfl, rfl⟩ := h₁
  cases vm.litI
  refine call_raw keeps_type (hplain _) (h.run P₁ fun vs s₂ ds σ₂ p₂ P₂ vms h₂ => ⟨P₂.st.inK ok, ?_⟩)
  obtain ⟨b, rfl, hb, q⟩ := h₂
  obtain ⟨v, rfl, vv⟩ := vms.one
  obtain ⟨tk, rfl⟩ := vv.intI
  refine call_range_1 ?_
  have P₃ : Post X σ₂ s₂ σ₂ { s₂ with heap := s₂.heap.push { cls := .type "range", data := .fields #[.int 0 s₂.toks, .int b tk, .int 1 (s₂.toks + 1)] }, toks := s₂.toks + 1 + 1 } :=
    Post.keeps P₂.st _ _ rfl fun _ _ e => Heap.get?_push_of_some _ e
  refine wpAny_pyIter_range (s := { s₂ with heap := s₂.heap.push { cls := .type "range", data := .fields #[.int 0 s₂.toks, .int b tk, .int 1 (s₂.toks + 1)] }, toks := s₂.toks + 1 + 1 }) (IsRange.new ..) (small_one (by omega) (by omega) (by omega) (by omega)) ?_
  have P₄ := st_push P₃.st { cls := .type "range_iterator", data := .fields #[rawInt 0, rawInt (Builtin.Range.rangeSize 0 b 1), rawInt 1] }
  have er : Builtin.Range.rangeSize 0 (b : Int) 1 = (b : Int) := by rw [rangeSize_one]; split <;> omega
  refine ⟨_, b, _, σ₂, rfl, P₂.trans (P₃.trans P₄), ?_, q⟩
  refine ⟨[_], [_], fun i v => ∃ t, v = .int (0 + i * 1) t, fun i h => IsRangeIter h (s₂.heap.push { cls := .type "range", data := .fields #[.int 0 s₂.toks, .int b tk, .int 1 (s₂.toks + 1)] }).objs.size (0 + (i : Nat) * 1) ((b : Int) - (i : Nat)) 1, fun A' hA => Walks.range hA _ 0 1 b, ?_, fun i h' g c hc => ?_, fun c hc => ?_, fun c hc nb => absurd hc nb, fun i v mu' h' _ hv _ => ?_⟩
  · have g := Heap.get?_push_size (s₂.heap.push { cls := .type "range", data := .fields #[.int 0 s₂.toks, .int b tk, .int 1 (s₂.toks + 1)] }) (o := { cls := .type "range_iterator", data := .fields #[rawInt 0, rawInt (Builtin.Range.rangeSize 0 b 1), rawInt 1] }) rfl
    rw [er] at g
    show Heap.get? _ _ = _
    simpa [er] using g
  · rw [List.mem_singleton.mp hc]; exact ⟨_, _, g, rfl⟩
  · rw [List.mem_singleton.mp hc]; exact new_facts P₃.st
  · obtain ⟨t, rfl⟩ := hv
    have e : ((0 : Int) + (i : Int) * 1) = (i : Int) := by omega
    rw [e]; exact .int _ _
theorem draws_str {prog : Program} {w : World} {A : Around} (hh : A.handled = none) (it : Addr) (x : Str) (t : Tok) : Draws prog w A it [it] x.cps.size (SignAt x) (fun i h => h.IsStrIter it (strIterType x) x t i) := by
  unfold strIterType
  split
  · exact Draws.strAscii hh it x t
  · exact Draws.strWide hh it x t
end
end Mine
namespace Mine
open PySem PySem.W PySem.Calls PySem.Spec PyProof.Rows
section
variable {X : Cx} {n : Nat} {σ : S} {E : Value → S → Prop}
theorem W_ListO {elts : List Expr} {pos : Pos} {Q : V → S → Prop} (ok : Ok X n) (h : W X (spliced (backTo pos (starEach elts X.env))) VMs σ (fun as σ₁ => as.length ≤ 1000 ∧ ∀ a, σ₁.hp a = none → Q (.ref a) { σ₁ with hp := upd σ₁.hp a (.lst as) }) E) : WE X (.List elts pos) σ Q E := fun _ st =>
  List_ (h.run (Post.refl st) fun vs s₁ as σ₁ _ P₁ va q => wpAny_newList (by
    have P := post_write (h' := s₁.heap.push { cls := .type "list", data := .seq vs.toArray }) (tk := s₁.toks) (a := s₁.heap.objs.size) (o := .lst as) ok P₁.st (fun b o _ _ e => Heap.get?_push_of_some _ e) (by obtain ⟨m, hn, hm⟩ := P₁.st.names; exact ⟨m, hn.push _, hm⟩) (.inr (Heap.get?_none_of_le (Nat.le_refl _)))
      fun _ _ mv => ⟨vs, 0, Heap.get?_push_size _ rfl, mv _ _ va⟩
    exact ⟨.ref s₁.heap.objs.size, _, P₁.trans P, .ref _, q.2 _ (new_none P₁.st)⟩) (by rw [va.length, sizeLine_eq]; omega))
theorem gm_append {a : Addr} {ds : List V} {Q : Value → List V → S → Prop} (h1 : σ.hp a = some (.lst ds)) (q : Q (.builtin "list.append") [.ref a] σ) : GetM X (.ref a) "append" σ Q E := by
  intro v s pl st vm
  obtain rfl := vm.refI
  obtain ⟨⟨vs, k, g, _⟩, _⟩ := st.own a _ h1
  exact Calls.getMethod_list_append g rfl rfl ⟨[.ref a], σ, Post.refl st, .cons (.ref a) .nil, q⟩
theorem c_append {a : Addr} {ds : List V} {d : V} {Q : V → S → Prop} (ok : Ok X n) (h1 : σ.hp a = some (.lst ds)) (hl : ds.length ≤ 10000000) (q : Q .none { σ with hp := upd σ.hp a (.lst (ds ++ [d])) }) : Call X (.builtin "list.append") [.ref a, d] σ Q E := fun vs s st vm => by
  obtain ⟨v, w, rfl, va, vb⟩ := vm.two
  obtain rfl := va.refI
  obtain ⟨⟨vs, k, g, vms⟩, _⟩ := st.own a _ h1
  refine append_at g (fun h' hs g' => ?_) (by rw [List.size_toArray, vms.length, sizeLine_eq]; omega)
  obtain ⟨m, hn, hm⟩ := st.names
  have aL : X.env.locals ≠ a := fun e => st.locOff (by rw [e]; show σ.hp a ≠ none; rw [h1]; exact Option.some_ne_none _)
  have P := post_write (h' := h') (tk := s.toks) (a := a) (o := .lst (ds ++ [d])) ok st (fun b o n1 _ e => (hs.2 b n1).trans e) ⟨m, hn.at' (fun o e => (hs.2 _ aL).trans e), hm⟩ (.inl (by rw [h1]; exact Option.some_ne_none _))
    fun mv _ mvs => ⟨vs ++ [w], k + 1, by rw [g']; simp, (mvs _ _ vms).append (.cons (mv _ _ vb) .nil)⟩
  exact ⟨.none, _, P, .none, q⟩
inductive Fz (hp hp' : Addr → Option HO) : V → V → Prop
  | refl (d : V) : Fz hp hp' d d
  | pair {a b a' b' : V} : Fz hp hp' a a' → Fz hp hp' b b' → Fz hp hp' (.tup [a, b]) (.tup [a', b'])
  | own {a : Addr} {ds : List V} : hp a = some (.lst ds) → hp' a = none → Fz hp hp' (.ref a) (.lst ds)
structure SubF (σ' σ : S) : Prop where
  hp : ∀ a o, σ'.hp a = some o → σ.hp a = some o
  loc : ∀ x d', lk σ'.loc x = some d' → ∃ d, lk σ.loc x = some d ∧ Fz σ.hp σ'.hp d d'
mutual
noncomputable def V.dat : V → PyData
  | .none => .none
  | .bool b => .bool b
  | .int i => .int i
  | .str l => .str ⟨l.toArray⟩
  | .tup ds => .tuple (V.dats ds)
  | .lst ds => .list (V.dats ds)
  | .ref _ => .none
  | .lit _ => .none
noncomputable def V.dats : List V → List PyData
  | [] => []
  | d :: ds => V.dat d :: V.dats ds
end
mutual
noncomputable def V.plain : V → Bool
  | .tup ds => V.plains ds
  | .lst ds => V.plains ds
  | .ref _ => false
  | .lit _ => false
  | _ => true
noncomputable def V.plains : List V → Bool
  | [] => true
  | d :: ds => V.plain d && V.plains ds
end
mutual
theorem VM.reads {mu : Addr → Prop} {h : Heap} : ∀ (d : V) (v : Value), V.plain d = true → VM mu h v d → ∃ as, Reads h v (V.dat d) as
  | .none, v, _, x => by cases x; exact ⟨_, .none⟩
  | .bool b, v, _, x => by cases x; exact ⟨_, .bool b⟩
  | .int i, v, _, x => by cases x; exact ⟨_, .int i _⟩
  | .str l, v, _, x => by obtain ⟨t, rfl⟩ := x.strI; exact ⟨_, .str _ t⟩
  | .tup ds, v, p, x => by
    obtain ⟨a, o, vs, n, rfl, g, c, e, _, vm⟩ := x.tupI
    obtain ⟨as, r⟩ := VMs.reads ds vs (by simpa [V.plain] using p) vm
    exact ⟨_, .tuple g c e (by rw [List.toList_toArray]; exact r)⟩
  | .lst ds, v, p, x => by
    obtain ⟨a, o, vs, n, rfl, g, c, e, _, vm⟩ := x.lstI
    obtain ⟨as, r⟩ := VMs.reads ds vs (by simpa [V.plain] using p) vm
    exact ⟨_, .list g c e (by rw [List.toList_toArray]; exact r)⟩
  | .ref _, v, p, x => by simp [V.plain] at p
  | .lit _, v, p, x => by simp [V.plain] at p
theorem VMs.reads {mu : Addr → Prop} {h : Heap} : ∀ (ds : List V) (vs : List Value), V.plains ds = true → VMs mu h vs ds → ∃ as, ReadsAll h vs (V.dats ds) as
  | [], vs, _, x => by cases x; exact ⟨_, .nil⟩
  | d :: ds, vs, p, x => by
    obtain ⟨v, ws, rfl, a, r⟩ := x.consI
    simp only [V.plains, Bool.and_eq_true] at p
    obtain ⟨as, ra⟩ := VM.reads d v p.1 a
    obtain ⟨bs, rb⟩ := VMs.reads ds ws p.2 r
    exact ⟨_, .cons ra rb⟩
end
structure Shp (d : V) : Prop where
  plain : V.plain d = true
  shaped : (PyData.canLay0 (V.dat d) && decide ((V.dat d).depth ≤ 64)) = true
theorem o_eqd {a b : V} {Q : V → S → Prop} (ok : Ok X n) (ha : Shp a) (hb : Shp b) (q : Q (.bool (PyData.eqv a.dat b.dat)) σ) : Op2 X (compareOp .Eq) a b σ Q E := fun v w s st va wb => by
  obtain ⟨as, ra⟩ := VM.reads a v ha.plain va
  obtain ⟨bs, rb⟩ := VM.reads b w hb.plain wb
  exact eq_dataH ra rb ha.shaped hb.shaped (by have := ok.units; omega) (qw_self st (.bool _) q)
theorem o_ned {a b : V} {Q : V → S → Prop} (ok : Ok X n) (ha : Shp a) (hb : Shp b) (q : Q (.bool (!PyData.eqv a.dat b.dat)) σ) : Op2 X (compareOp .NotEq) a b σ Q E := fun v w s st va wb => by
  obtain ⟨as, ra⟩ := VM.reads a v ha.plain va
  obtain ⟨bs, rb⟩ := VM.reads b w hb.plain wb
  exact ne_dataH ra rb ha.shaped hb.shaped (by have := ok.units; omega) (qw_self st (.bool _) q)
theorem eqv_self {a : V} (ha : Shp a) : PyData.eqv a.dat a.dat = true := SeqAt.eqv_refl _ (SeqAt.canLay_of_shaped ha.shaped)
end
end Mine
namespace Mine
open PySem PySem.W PySem.Calls PySem.Spec PyProof.Rows
section
variable {X : Cx} {n : Nat} {σ : S} {E : Value → S → Prop}
noncomputable abbrev mk (l : List Nat) : Str := ⟨l.toArray⟩
theorem VMs.intsI {mu : Addr → Prop} {h : Heap} : ∀ {ns : List Int} {vs : List Value}, VMs mu h vs (ns.map V.int) → IntsAre vs ns
  | [], vs, x => by cases x; exact .nil
  | a :: ns, vs, x => by
    obtain ⟨v, ws, rfl, y, r⟩ := x.consI
    cases y
    exact .cons _ _ (VMs.intsI r)
theorem mk_len (l : List Nat) : (mk l).length = l.length := by simp [Str.length]
section
variable {Q : V → S → Prop}
theorem c_sum {ns : List Int} (ok : Ok X n) (hc : X.ctx = none) (q : Q (.int ns.sum) σ) : Call X (.builtin "sum") [.lst (ns.map .int)] σ Q E := fun vs s st vm => by
  obtain ⟨v, rfl, va⟩ := vm.one
  obtain ⟨a, o, vs, k, rfl, g, c, d, nm, vms⟩ := va.lstI
  have hA : X.A.handled = none := by rw [ok.handled, hc]; rfl
  have ia := vms.intsI
  refine call_sum_walkG (wpAny_pyIter_list (items := vs.toArray) ⟨o, g, c, k, d⟩ ?_)
  have ga := Heap.get?_push_of_some { cls := .type "list_iterator", data := .fields #[.ref a, .int 0 0] } g
  have ne : a ≠ s.heap.objs.size := Nat.ne_of_lt (Heap.lt_size g)
  have P := st_push st { cls := .type "list_iterator", data := .fields #[.ref a, .int 0 0] }
  refine ⟨_, [s.heap.objs.size, a], [s.heap.objs.size], vs.toArray.size, fun i v => vs.toArray[i]? = some v, fun i h => h.IsListIter s.heap.objs.size a i ∧ h.IsList a vs.toArray, fun i => ns.getD i 0, rfl, Walks.list (A := X.A.in1) hA _ _ ne _,
    ⟨⟨_, Heap.get?_push_size _ rfl, rfl, rfl⟩, ⟨o, ga, c, k, d⟩⟩, fun b hb => ?_, fun i v e => ?_, fun h' tk t' hk => ?_⟩
  · rw [Heap.size_push]
    rcases List.mem_cons.mp hb with rfl | hb
    · exact Nat.lt_succ_self _
    · rw [List.mem_singleton.mp hb]; exact Nat.lt_succ_of_lt (Heap.lt_size g)
  · have e' : vs[i]? = some v := by simpa using e
    obtain ⟨dv, e2, vm'⟩ := vms.get' e'
    rw [List.getElem?_map] at e2
    cases hn : ns[i]? with
    | none => rw [hn] at e2; cases e2
    | some z =>
      rw [hn] at e2
      cases e2
      cases vm'
      exact ⟨_, by show _ = Value.int (ns.getD i 0) _; rw [List.getD_eq_getElem?_getD, hn]; rfl⟩
  · have e1 : preSum (fun i => ns.getD i 0) vs.toArray.size = ns.sum := by
      rw [PyProof.Rows.preSum_getD]
      rw [List.size_toArray, vms.length, List.length_map, List.take_of_length_le (Nat.le_refl _)]
    rw [e1]
    have nf := new_facts st
    refine ⟨_, σ, P.trans (post_slots (bad := [s.heap.objs.size]) P.st (fun b o g' _ nb => hk b o nb g') (fun b o g' nfd => ⟨o.slots, hk b o (fun hb => ?_) g'⟩) fun b hb => ?_), .int _ _, q⟩
    · rw [List.mem_singleton.mp hb] at g'
      have := Heap.get?_push_size s.heap (o := { cls := .type "list_iterator", data := .fields #[.ref a, .int 0 0] }) rfl
      have g2 : (s.heap.push { cls := .type "list_iterator", data := .fields #[.ref a, .int 0 0] }).get? s.heap.objs.size = some o := g'
      rw [this] at g2; cases g2; exact nfd _ rfl
    · rw [List.mem_singleton.mp hb]; exact ⟨⟨nf.1, nf.2.1⟩, nf.2.2, _, _, Heap.get?_push_size _ rfl, rfl⟩
theorem s_lstItem {dl : V} {ds : List V} {k : Nat} {d : V} {value slice : Expr} (hll : Lst σ dl ds) (hk : k ≤ 100000) (e : ds[k]? = some d) (q : Q d σ)
    (hs : ∀ l i u, subscripted slice false (.ref l) (.int i u) = operate [.ref l, .int i u] (getItem (.ref l) (.int i u))) : Op2 X (subscriptTail value slice) dl (.int k) σ Q E := fun v w s st va wb => by
  obtain ⟨a, o, vs, m, rfl, g, c, d', vms⟩ := hll.get st va
  obtain ⟨_, rfl⟩ := wb.intI
  obtain ⟨v, e2, vm⟩ := vms.get e
  have hl : s.heap.IsList a vs.toArray := ⟨o, g, c, m, d'⟩
  exact tail_any hl.typeIs slot_list_getitem.lookup (wpAny_getItem_list (x := v) hl (by omega) (by omega) (by simpa using e2) (qw_self st vm q)) (hs _ _ _)
theorem c_lenL {dl : V} {ds : List V} (hll : Lst σ dl ds) (h : ds.length ≤ 100000) (q : Q (.int ds.length) σ) : Call X (.builtin "len") [dl] σ Q E := fun vs s st vm => by
  obtain ⟨v, rfl, va⟩ := vm.one
  obtain ⟨a, o, vs, k, rfl, g, c, d, vms⟩ := hll.get st va
  refine PyProof.Rows.len_list (items := vs.toArray) ⟨o, g, c, k, d⟩ (by rw [List.size_toArray, vms.length]; omega) (qw_same st _ ?_ q)
  rw [List.size_toArray, vms.length]; exact .int _ _
end
end
end Mine
namespace Mine
open PySem PySem.W PySem.Calls PySem.Spec PyProof.Rows
section
variable {X : Cx} {n : Nat} {σ : S} {E : Value → S → Prop}
noncomputable def StoN (X : Cx) (x : Str) (d : V) (σ σ' : S) : Prop := ∀ v s, St X σ s.heap → VM σ.mu s.heap v d → wpAny (model X.prog X.w) X.A (storeName X.env x v) (Qw X σ s RU (fun _ σ'' => σ'' = σ')) (fun _ _ => False) s
theorem sto_local {x : Str} {d : V} (ok : Ok X n) (hx : X.env.kindOf x = some .local) : StoN X x d σ { σ with loc := put σ.loc x d } := fun v s st vm =>
  wpAny_mono (store_local (E := fun _ _ => False) (Q := fun _ σ'' => σ'' = { σ with loc := put σ.loc x d }) ok hx rfl (Post.refl st) vm) (fun _ _ z => z) fun _ _ z => by obtain ⟨_, _, _, _, _, _, z⟩ := z; exact z
inductive CellQ (hp : Addr → Option HO) (c : Addr) (P : Prop) : Prop
  | mk (v₀ : Option V) (e : hp c = some (.cell v₀)) (q : P)
end
end Mine
namespace Mine
open PySem PySem.W PySem.Calls PySem.Spec PyProof.Rows
section
variable {X : Cx} {n : Nat} {σ : S} {E : Value → S → Prop}
structure CEnv (X : Cx) (cenv : Env) : Prop where
  kind : cenv.scope.kind = .function
  glob : cenv.globals = X.env.globals
  bult : cenv.builtins = X.env.builtins
  frame : cenv.frame = X.env.frame
noncomputable abbrev F0 : Value → S → Prop := fun _ _ => False
theorem Ew.elim0 {X : Cx} {σ : S} {s s' : Shared} {e : Value} {P : Prop} (h : Ew X σ s F0 e s') : P := by obtain ⟨_, _, _, _, _, _, z⟩ := h; exact z.elim
end
end Mine
namespace Mine
open PySem PySem.W PySem.Calls PySem.Spec PyProof.Rows
section
variable {X : Cx} {n : Nat} {σ : S} {E : Value → S → Prop}
theorem post_pair {s : Shared} {h' : Heap} {tk : Nat} {wr to : List Addr} (st : St X σ s.heap) (hT : ∀ b ∈ to, σ.hp b = some .pair) (kk : ∀ b o, b ∉ wr → b ∉ to → s.heap.get? b = some o → h'.get? b = some o) (hp' : ∀ b ∈ to, ∃ x y : Value, h'.get? b = some { cls := .type "tuple", data := .seq #[x, y] })
    (hb : ∀ b ∈ wr, (X.base.get? b = none ∧ ¬ σ.mu b) ∧ b ∉ X.prot ∧ ∃ o vs, s.heap.get? b = some o ∧ o.data = .fields vs) : Post X σ s σ { s with heap := h', toks := tk } := by
  have nb : ∀ b o, s.heap.get? b = some o → (∀ vs, o.data ≠ .fields vs) → b ∉ wr := fun b o g q hm => by
    obtain ⟨_, _, o', vs, g', d⟩ := hb b hm
    rw [g] at g'; cases g'; exact q _ d
  have nT : ∀ b, ¬ σ.mu b → b ∉ to := fun b nm e => nm (by show σ.hp b ≠ none; rw [hT b e]; exact Option.some_ne_none _)
  have x : Ext X.env.locals X.prot σ.mu s.heap σ.mu h' := by
    refine ⟨fun a o g nm q => ⟨kk a o (nb a o g fun vs d => ?_) (nT a nm) g, nm⟩, fun a o g nm _ q => ⟨nm, o.slots, kk a o (nb a o g q) (nT a nm) g⟩, fun a ha o g => ?_⟩
    · rw [d] at q; exact q
    · obtain ⟨z, _⟩ := st.prot a ha
      exact ⟨kk a o (fun hm => (hb a hm).2.1 ha) (nT a z) g, z⟩
  refine ⟨⟨h', tk, rfl⟩, x, ⟨fun b o e => kk b o (fun hm => ?_) (fun q => ?_) (st.base b o e), ?_, fun a o e => ?_, st.locOff, fun a ha => ?_, fun e he => ?_⟩⟩
  · have := (hb b hm).1.1; rw [e] at this; cases this
  · have := (st.own b _ (hT b q)).2; rw [e] at this; cases this
  · obtain ⟨m, ⟨oL, es, ep, gL, dL, r⟩, hm⟩ := st.names
    exact ⟨m, ⟨oL, es, ep, kk _ _ (nb _ _ gL fun vs q => by rw [dL] at q; cases q) (nT _ st.locOff) gL, dL, r⟩, fun y d e => let ⟨v, q, r⟩ := hm y d e; ⟨v, q, r.mono x⟩⟩
  · obtain ⟨y, z⟩ := st.own a o e
    by_cases ha : a ∈ to
    · rw [hT a ha] at e; cases e; exact ⟨hp' a ha, z⟩
    · obtain ⟨ob, g⟩ := y.there
      exact ⟨y.mono x ((kk a ob (fun hm => (hb a hm).1.2 (by show σ.hp a ≠ none; rw [e]; exact Option.some_ne_none _)) ha g).trans g.symm), z⟩
  · obtain ⟨z, o', vs, g', d⟩ := st.prot a ha
    exact ⟨z, o', vs, (x.watch a ha o' g').1, d⟩
  · obtain ⟨z, L, o, es, ep, hf, hn, hm, g, d⟩ := st.frs e he
    exact ⟨z, L, o, es, ep, hf, hn, hm, kk L o (nb L o g fun vs q => by rw [d] at q; cases q) (nT L hm) g, d⟩
noncomputable def drp (to : List Addr) (hp : Addr → Option HO) : Addr → Option HO := fun a => if a ∈ to then none else hp a
theorem drp_nil (hp : Addr → Option HO) : drp [] hp = hp := funext fun _ => if_neg List.not_mem_nil
theorem drp_in {to : List Addr} {hp : Addr → Option HO} {a : Addr} (h : a ∈ to) : drp to hp a = none := if_pos h
theorem drp_out {to : List Addr} {hp : Addr → Option HO} {a : Addr} (h : a ∉ to) : drp to hp a = hp a := if_neg h
theorem post_pairD {s : Shared} {h' : Heap} {tk : Nat} {wr to : List Addr} (st : St X σ s.heap) (hT : ∀ b ∈ to, σ.hp b = some .pair) (kk : ∀ b o, b ∉ wr → b ∉ to → s.heap.get? b = some o → h'.get? b = some o)
    (hb : ∀ b ∈ wr, (X.base.get? b = none ∧ ¬ σ.mu b) ∧ b ∉ X.prot ∧ ∃ o vs, s.heap.get? b = some o ∧ o.data = .fields vs) : Post X σ s ⟨σ.loc, drp to σ.hp⟩ { s with heap := h', toks := tk } := by
  have nb : ∀ b o, s.heap.get? b = some o → (∀ vs, o.data ≠ .fields vs) → b ∉ wr := fun b o g q hm => by
    obtain ⟨_, _, o', vs, g', d⟩ := hb b hm
    rw [g] at g'; cases g'; exact q _ d
  have nT : ∀ b, ¬ σ.mu b → b ∉ to := fun b nm e => nm (by show σ.hp b ≠ none; rw [hT b e]; exact Option.some_ne_none _)
  have nmu : ∀ b, ¬ σ.mu b → ¬ S.mu ⟨σ.loc, drp to σ.hp⟩ b := fun b nm z => nm (by
    have z' : drp to σ.hp b ≠ none := z
    rw [drp_out (nT b nm)] at z'; exact z')
  have x : Ext X.env.locals X.prot σ.mu s.heap (S.mu ⟨σ.loc, drp to σ.hp⟩) h' := by
    refine ⟨fun a o g nm q => ⟨kk a o (nb a o g fun vs d => ?_) (nT a nm) g, nmu a nm⟩, fun a o g nm _ q => ⟨nmu a nm, o.slots, kk a o (nb a o g q) (nT a nm) g⟩, fun a ha o g => ?_⟩
    · rw [d] at q; exact q
    · obtain ⟨z, _⟩ := st.prot a ha
      exact ⟨kk a o (fun hm => (hb a hm).2.1 ha) (nT a z) g, nmu a z⟩
  refine ⟨⟨h', tk, rfl⟩, x, ⟨fun b o e => kk b o (fun hm => ?_) (fun q => ?_) (st.base b o e), ?_, fun a o e => ?_, nmu _ st.locOff, fun a ha => ?_, fun e he => ?_⟩⟩
  · have := (hb b hm).1.1; rw [e] at this; cases this
  · have := (st.own b _ (hT b q)).2; rw [e] at this; cases this
  · obtain ⟨m, ⟨oL, es, ep, gL, dL, r⟩, hm⟩ := st.names
    exact ⟨m, ⟨oL, es, ep, kk _ _ (nb _ _ gL fun vs q => by rw [dL] at q; cases q) (nT _ st.locOff) gL, dL, r⟩, fun y d e => let ⟨v, q, r⟩ := hm y d e; ⟨v, q, r.mono x⟩⟩
  · have e' : drp to σ.hp a = some o := e
    have ha : a ∉ to := fun q => by rw [drp_in q] at e'; cases e'
    rw [drp_out ha] at e'
    obtain ⟨y, z⟩ := st.own a o e'
    obtain ⟨ob, g⟩ := y.there
    exact ⟨y.mono x ((kk a ob (fun hm => (hb a hm).1.2 (by show σ.hp a ≠ none; rw [e']; exact Option.some_ne_none _)) ha g).trans g.symm), z⟩
  · obtain ⟨z, o', vs, g', d⟩ := st.prot a ha
    exact ⟨nmu a z, o', vs, (x.watch a ha o' g').1, d⟩
  · obtain ⟨z, L, o, es, ep, hf, hn, hm, g, d⟩ := st.frs e he
    exact ⟨z, L, o, es, ep, hf, hn, nmu L hm, kk L o (nb L o g fun vs q => by rw [d] at q; cases q) (nT L hm) g, d⟩
inductive ItG (X : Cx) (σ : S) (h : Heap) (J : Addr) (tg : Expr) (N : Nat) (P : Nat → (Addr → Prop) → Heap → Value → Prop) (to : List Addr) : Prop
  | mk (wr : List Addr) (SS : Nat → Heap → Prop) (Mid : Nat → Value → Heap → Prop)
    (next : ∀ A' : Around, A'.handled = none → ∀ i (s : Shared) (Q : Option Value → Shared → Prop) (E' : Value → Shared → Prop), i < N → SS i s.heap → (∀ v h' tk, Mid i v h' → (∀ b o, b ∉ wr → b ∉ to → s.heap.get? b = some o → h'.get? b = some o) → Q (some v) { s with heap := h', toks := tk }) → wpAny (model X.prog X.w) A' (pyNext (.ref J)) Q E' s)
    (go : ∀ A' : Around, A'.handled = none → ∀ i v (s : Shared) (Q : Unit → Shared → Prop) (E' : Value → Shared → Prop), Mid i v s.heap → (∀ h', SS (i + 1) h' → (∀ b o, b ∉ wr → b ∉ to → s.heap.get? b = some o → h'.get? b = some o) → Q () { s with heap := h' }) → wpAny (model X.prog X.w) A' (letOwnedTupleGo tg (.ref J) v) Q E' s)
    (done : ∀ A' : Around, A'.handled = none → ∀ (s : Shared) (Q : Option Value → Shared → Prop) (E' : Value → Shared → Prop), SS N s.heap → (∀ h' tk, (∀ b o, b ∉ wr → b ∉ to → s.heap.get? b = some o → h'.get? b = some o) → Q none { s with heap := h', toks := tk }) → wpAny (model X.prog X.w) A' (pyNext (.ref J)) Q E' s)
    (self : ∀ A' : Around, A'.handled = none → ∀ i (s : Shared) (Q : Value → Shared → Prop) (E' : Value → Shared → Prop), SS i s.heap → Q (.ref J) s → wpAny (model X.prog X.w) A' (pyIter (.ref J)) Q E' s)
    (st0 : SS 0 h) (hrec : ∀ i h', SS i h' → ∀ b ∈ wr, ∃ o vs, h'.get? b = some o ∧ o.data = .fields vs) (hrec2 : ∀ i v h', Mid i v h' → ∀ b ∈ wr, ∃ o vs, h'.get? b = some o ∧ o.data = .fields vs)
    (hpr : ∀ i h', SS i h' → ∀ b ∈ to, ∃ x y : Value, h'.get? b = some { cls := .type "tuple", data := .seq #[x, y] }) (hpr2 : ∀ i v h', Mid i v h' → ∀ b ∈ to, ∃ x y : Value, h'.get? b = some { cls := .type "tuple", data := .seq #[x, y] })
    (hwr : ∀ b ∈ wr, X.base.get? b = none ∧ ¬ σ.mu b ∧ b ∉ X.prot)
    (keep : ∀ i h₁ mu₁ h₂, SS i h₁ → SeqX σ.mu h mu₁ h₁ → (∀ a o, h₁.get? a = some o → ¬ mu₁ a → isSeq o.data → h₂.get? a = some o) → (∀ b ∈ wr, ∀ o, h₁.get? b = some o → h₂.get? b = some o) → (∀ b ∈ to, ∃ x y : Value, h₂.get? b = some { cls := .type "tuple", data := .seq #[x, y] }) → SS i h₂)
    (val : ∀ i v mu' h₁ h₂, i < N → Mid i v h₁ → SeqX σ.mu h mu' h₂ → (∀ b o, b ∉ wr → b ∉ to → h₁.get? b = some o → h₂.get? b = some o) → P i mu' h₂ v)
theorem keep_of {fp wr : List Addr} {SS : Nat → Heap → Prop} {h : Heap} (frame : ∀ i h h', SS i h → (∀ b ∈ fp, ∀ o, h.get? b = some o → h'.get? b = some o) → SS i h') (hfp : ∀ b ∈ fp, b ∉ wr → ¬ σ.mu b ∧ ∃ o, h.get? b = some o ∧ isSeq o.data) :
    ∀ i h₁ mu₁ h₂, SS i h₁ → SeqX σ.mu h mu₁ h₁ → (∀ a o, h₁.get? a = some o → ¬ mu₁ a → isSeq o.data → h₂.get? a = some o) → (∀ b ∈ wr, ∀ o, h₁.get? b = some o → h₂.get? b = some o) → SS i h₂ := fun i h₁ mu₁ h₂ st x k1 k2 => by
  refine frame _ _ _ st fun b hb o g => ?_
  by_cases hw : b ∈ wr
  · exact k2 b hw o g
  · obtain ⟨nm, o₀, g₀, q₀⟩ := hfp b hb hw
    obtain ⟨g₁, nm₁⟩ := x b o₀ g₀ nm q₀
    rw [g] at g₁; cases g₁
    exact k1 b _ g nm₁ q₀
noncomputable abbrev PN (ds : Nat → V) (i : Nat) (mu : Addr → Prop) (h : Heap) (v : Value) : Prop := VM mu h v (ds i)
inductive PT (d1 d2 : Nat → V) (i : Nat) (mu : Addr → Prop) (h : Heap) (v : Value) : Prop
  | mk (T : Addr) (v1 v2 : Value) (e : v = .ref T) (ht : h.IsTuple T #[v1, v2]) (m1 : VM mu h v1 (d1 i)) (m2 : VM mu h v2 (d2 i))
theorem Iter.toG {h : Heap} {J N : Nat} {ds : Nat → V} {x : Str} {tp : Pos} (IT : Iter X σ h J N ds) : ItG X σ h J (.Name x tp) N (PN ds) [] := by
  obtain ⟨fp, wr, PP, SS, hW, st0, hrec, hwr, hfp, hvm⟩ := IT
  have kp := keep_of (hW ⟨none, 0, none, none, 0⟩ rfl).frame hfp
  refine ⟨wr, SS, fun i v h' => SS (i + 1) h' ∧ PP i v, fun A' hA i s Q E' hi st q => (hW A' hA).item i s _ _ hi st fun w h' tk pv st' kk => q w h' tk ⟨st', pv⟩ fun b o h1 _ => kk b o h1, fun A' hA i v s Q E' m q => wpAny_pure (q s.heap m.1 fun _ _ _ _ e => e), fun A' hA s Q E' st q => (hW A' hA).done s _ _ st fun h' tk kk => q h' tk fun b o h1 _ => kk b o h1,
    fun A' hA i s Q E' st q => (hW A' hA).self i s _ _ st q, st0, hrec, fun i v h' m => hrec _ _ m.1, (fun _ _ _ b hb => nomatch hb), (fun _ _ _ _ b hb => nomatch hb), hwr, fun i h₁ mu₁ h₂ a b c d _ => kp i h₁ mu₁ h₂ a b c d, fun i v mu' h₁ h₂ hi m x _ => hvm i v mu' h₂ hi m.2 x⟩
theorem IterT.toG {h : Heap} {J N : Nat} {d1 d2 : Nat → V} {es : List Expr} {k : Nat} {tp : Pos} (IT : IterT X σ h J N d1 d2) : ItG X σ h J (.Tuple es k tp) N (PT d1 d2) [] := by
  obtain ⟨fp, wr, PP, SS, MM, hW, st0, hrec, hrec2, hwr, hfp, hvm⟩ := IT
  have kp := keep_of (hW ⟨none, 0, none, none, 0⟩ rfl).frame hfp
  refine ⟨wr, SS, fun i v h' => ∃ T vals, v = .ref T ∧ h'.IsTuple T vals ∧ MM i T h' ∧ PP i vals ∧ T ∉ wr, fun A' hA i s Q E' hi st q => (hW A' hA).item i s _ _ hi st fun T vals h' tk pv hT hM kk => q _ h' tk ⟨T, vals, rfl, hT, hM, pv, (hW A' hA).apart _ _ _ hM⟩ fun b o h1 _ => kk b o h1, fun A' hA i v s Q E' m q => ?_, fun A' hA s Q E' st q => (hW A' hA).done s _ _ st fun h' tk kk => q h' tk fun b o h1 _ => kk b o h1,
    fun A' hA i s Q E' st q => (hW A' hA).self i s _ _ st q, st0, hrec, fun i v h' m => by obtain ⟨T, vals, _, _, hM, _⟩ := m; exact hrec2 _ _ _ hM, (fun _ _ _ b hb => nomatch hb), (fun _ _ _ _ b hb => nomatch hb), hwr, fun i h₁ mu₁ h₂ a b c d _ => kp i h₁ mu₁ h₂ a b c d, fun i v mu' h₁ h₂ hi m x k => ?_⟩
  · obtain ⟨T, vals, rfl, _, hM, _⟩ := m
    exact (hW A' hA).go _ _ _ i T s _ _ hM fun h' st kk => q h' st fun b o h1 _ => kk b o h1
  · obtain ⟨T, vals, rfl, ⟨o, g, c, n, d⟩, hM, pv, hw⟩ := m
    obtain ⟨v1, v2, rfl, m1, m2⟩ := hvm i vals mu' h₂ hi pv x
    exact ⟨T, v1, v2, rfl, ⟨o, k T o hw List.not_mem_nil g, c, n, d⟩, m1, m2⟩
noncomputable def Asg (X : Cx) (tg : Expr) (P : (Addr → Prop) → Heap → Value → Prop) (σ σ' : S) : Prop := ∀ v s, St X σ s.heap → P σ.mu s.heap v → wpAny (model X.prog X.w) X.A (assign tg X.env v) (Qw X σ s RU (fun _ σ'' => σ'' = σ')) (fun _ _ => False) s
theorem asg_name {x : Str} {tp : Pos} {ds : Nat → V} {i : Nat} {σ' : S} (h : StoN X x (ds i) σ σ') : Asg X (.Name x tp) (PN ds i) σ σ' := fun v s st p => wpAny_assign_Name (h v s st p)
theorem asg_pair {x1 x2 : Str} {k : Nat} {tp p1 p2 : Pos} {d1 d2 : Nat → V} {i : Nat} {σ₁ σ₂ : S} (ok : Ok X n) (hc : X.ctx = none) (h1 : StoN X x1 (d1 i) σ σ₁) (h2 : StoN X x2 (d2 i) σ₁ σ₂) : Asg X (.Tuple [.Name x1 p1, .Name x2 p2] k tp) (PT d1 d2 i) σ σ₂ := fun v s st p => by
  obtain ⟨T, v1, v2, rfl, ht, m1, m2⟩ := p
  have hA : X.A.handled = none := by rw [ok.handled, hc]; rfl
  refine wpAny_assign_Tuple hA ht rfl rfl fun h₃ hx₃ => ?_
  have P₁ : Post X σ s σ { s with heap := h₃ } := Post.keeps st h₃ s.toks rfl fun b o g => hx₃ b o (Nat.ne_of_lt (Heap.lt_size g)) g
  show wpAny _ _ (do holding [v2] (assign (.Name x1 p1) X.env v1); do holding [] (assign (.Name x2 p2) X.env v2); pure ()) _ _ _
  refine wpAny_bind (wpAny_holding (wpAny_assign_Name (wpAny_mono (h1 v1 _ P₁.st (m1.mono P₁.ext)) (fun _ s₃ z => ?_) fun _ _ z => z)))
  obtain ⟨_, _, P₂, _, rfl⟩ := z
  refine wpAny_bind (wpAny_holding (wpAny_assign_Name (wpAny_mono (h2 v2 _ P₂.st ((m2.mono P₁.ext).mono P₂.ext)) (fun _ s₄ z => ?_) fun _ _ z => z)))
  obtain ⟨_, _, P₃, _, rfl⟩ := z
  exact wpAny_pure ⟨(), _, (P₁.trans P₂).trans P₃, trivial, rfl⟩
inductive LoopG (X : Cx) (n : Nat) (σ₁ : S) (s₂ : Shared) (J : Addr) (tg : Expr) (N : Nat) (P : Nat → (Addr → Prop) → Heap → Value → Prop) (to : List Addr) : Prop
  | mk (wr : List Addr) (G : Nat → S → Shared → Prop) (g0 : G 0 σ₁ s₂) (gp : ∀ i σ' s', G i σ' s' → Post X σ₁ s₂ σ' s')
    (self : ∀ i σ' s' (Q : Value → Shared → Prop) (E' : Value → Shared → Prop), G i σ' s' → Q (.ref J) s' → wpAny (model X.prog X.w) X.A (pyIter (.ref J)) Q E' s')
    (next : ∀ i σ' s' σb (QB : Shared → Prop) (Z : Option Value → Shared → Prop) (E' : Value → Shared → Prop), i < N → G i σ' s' → (Ok (X.watch wr) n → Asg (X.watch wr) tg (P i) σ' σb) →
      (Ok (X.watch wr) n → ∀ s₃, Post X σ' s' σb s₃ → St (X.watch wr) σb s₃.heap → (∀ σ₄ s₄, Post (X.watch wr) σb s₃ σ₄ s₄ → (∀ b ∈ to, σ₄.hp b = some .pair) → G (i + 1) σ₄ s₄) → QB s₃) →
      (∀ v s₁, wpAny (model X.prog X.w) X.A (letOwnedTupleGo tg (.ref J) v) (fun _ s₁' => wpAny (model X.prog X.w) X.A (assign tg X.env v) (fun _ s₂ => QB s₂) E' s₁') E' s₁ → Z (some v) s₁) → wpAny (model X.prog X.w) X.A (pyNext (.ref J)) Z E' s')
    (done : ∀ σ' s' (Z : Option Value → Shared → Prop) (E' : Value → Shared → Prop), G N σ' s' → (∀ s₃, Post X σ' s' ⟨σ'.loc, drp to σ'.hp⟩ s₃ → Z none s₃) → wpAny (model X.prog X.w) X.A (pyNext (.ref J)) Z E' s')
theorem loopG {σ₁ : S} {s₂ : Shared} {J : Addr} {tg : Expr} {N : Nat} {P : Nat → (Addr → Prop) → Heap → Value → Prop} {to : List Addr} (ok : Ok X n) (hc : X.ctx = none) (IT : ItG X σ₁ s₂.heap J tg N P to) (hT : ∀ b ∈ to, σ₁.hp b = some .pair) (st : St X σ₁ s₂.heap) : LoopG X n σ₁ s₂ J tg N P to := by
  have hA : X.A.handled = none := by rw [ok.handled, hc]; rfl
  obtain ⟨wr, SS, Mid, next, go, done, self, st0, hrec, hrec2, hpr, hpr2, hwr, keep, val⟩ := IT
  refine ⟨wr, fun i σ' s' => Post X σ₁ s₂ σ' s' ∧ SS i s'.heap ∧ (∀ b ∈ wr, ¬ σ'.mu b) ∧ ∀ b ∈ to, σ'.hp b = some .pair, ⟨Post.refl st, st0, fun b hb => (hwr b hb).2.1, hT⟩, fun i σ' s' g => g.1, fun i σ' s' Q E' g q => self _ hA i s' _ _ g.2.1 q, fun i σ' s' σb QB Z E' hi g asg qb z => ?_, fun σ' s' Z E' g z => ?_⟩
  · obtain ⟨Pb, sti, hmu, hT'⟩ := g
    refine next _ hA i s' _ _ hi sti fun v h' tk mid kk => z _ _ ?_
    have Pc := post_pair (tk := tk) Pb.st hT' kk (hpr2 _ _ _ mid) fun b hb => ⟨⟨(hwr b hb).1, hmu b hb⟩, (hwr b hb).2.2, hrec i _ sti b hb⟩
    refine go _ hA i v _ _ _ mid fun h₂ st₂ kk₂ => ?_
    have Pd := post_pair (s := { s' with heap := h', toks := tk }) (tk := tk) Pc.st hT' kk₂ (hpr _ _ st₂) fun b hb => ⟨⟨(hwr b hb).1, hmu b hb⟩, (hwr b hb).2.2, hrec2 _ _ _ mid b hb⟩
    have Pcd := Pc.trans Pd
    have Pbd := Pb.trans Pcd
    have lw : X.env.locals ∉ wr := fun hb => by
      obtain ⟨o, vs, g, d⟩ := hrec _ _ st₂ _ hb
      obtain ⟨m, ⟨oL, es, ep, gL, dL, _⟩, _⟩ := Pd.st.names
      have gL' : h₂.get? X.env.locals = some oL := gL
      rw [g] at gL'; cases gL'; rw [d] at dL; cases dL
    have okw := ok_watch ok lw
    have stw : St (X.watch wr) σ' h₂ := st_watch hc Pd.st fun b hb => ⟨hmu b hb, hrec _ _ st₂ b hb⟩
    refine wpAny_mono (asg okw v { s' with heap := h₂, toks := tk } stw (val i v σ'.mu _ _ hi mid Pbd.ext.seq kk₂)) (fun _ s₃ q => ?_) fun _ _ q => q.elim
    obtain ⟨_, _, Pe, _, rfl⟩ := q
    refine qb okw s₃ (Pcd.trans (post_unwatch Pe)) Pe.st fun σ₄ s₄ Pf hT4 => ?_
    have Pef := Pe.trans Pf
    exact ⟨Pbd.trans (post_unwatch Pef), keep _ _ _ _ st₂ Pbd.ext.seq (fun a o g nm q => (Pef.ext.seq a o g nm q).1) (fun b hb o g => (Pef.ext.watch b (List.mem_append_left _ hb) o g).1) (fun b hb => (Pf.st.own b _ (hT4 b hb)).1), fun b hb => (Pf.st.prot b (List.mem_append_left _ hb)).1, hT4⟩
  · obtain ⟨Pb, sti, hmu, hT'⟩ := g
    exact done _ hA s' _ _ sti fun h' tk kk => z _ (post_pairD Pb.st hT' kk fun b hb => ⟨⟨(hwr b hb).1, hmu b hb⟩, (hwr b hb).2.2, hrec _ _ sti b hb⟩)
inductive ItAtG (X : Cx) (σ : S) (s : Shared) (tg : Expr) (one : Prop) (Q : Nat → (Nat → (Addr → Prop) → Heap → Value → Prop) → S → (Addr → Option HO) → Prop) (it : Value) (s₂ : Shared) : Prop
  | mk (J : Addr) (N : Nat) (P : Nat → (Addr → Prop) → Heap → Value → Prop) (σ₂ : S) (to : List Addr) (e : it = .ref J) (h1 : one → to = []) (hT : ∀ b ∈ to, σ₂.hp b = some .pair) (PP : Post X σ s σ₂ s₂) (IT : ItG X σ₂ s₂.heap J tg N P to) (q : Q N P σ₂ (drp to σ₂.hp))
noncomputable def WItG (X : Cx) (iter tg : Expr) (one : Prop) (σ : S) (Q : Nat → (Nat → (Addr → Prop) → Heap → Value → Prop) → S → (Addr → Option HO) → Prop) (E : Value → S → Prop) : Prop :=
  ∀ s, St X σ s.heap → wpAny (model X.prog X.w) X.A (eval iter X.env) (fun x s₁ => wpAny (model X.prog X.w) X.A (pyIter x) (ItAtG X σ s tg one Q) (Ew X σ s E) s₁) (Ew X σ s E) s
theorem WIt.toG {iter : Expr} {x : Str} {tp : Pos} {one : Prop} {Q : Nat → (Nat → (Addr → Prop) → Heap → Value → Prop) → S → (Addr → Option HO) → Prop} (h : WIt X iter σ (fun N ds σ₁ => Q N (PN ds) σ₁ σ₁.hp) E) : WItG X iter (.Name x tp) one σ Q E := fun s st =>
  wpAny_mono (h s st) (fun _ _ z => wpAny_mono z (fun _ _ z => by cases z with | mk J N ds σ₂ e PP IT q => exact ⟨J, N, _, σ₂, [], e, fun _ => rfl, (fun b hb => nomatch hb), PP, IT.toG, by rw [drp_nil]; exact q⟩) fun _ _ z => z) fun _ _ z => z
theorem WItT.toG {iter : Expr} {es : List Expr} {k : Nat} {tp : Pos} {one : Prop} {Q : Nat → (Nat → (Addr → Prop) → Heap → Value → Prop) → S → (Addr → Option HO) → Prop} (h : WItT X iter σ (fun N d1 d2 σ₁ => Q N (PT d1 d2) σ₁ σ₁.hp) E) : WItG X iter (.Tuple es k tp) one σ Q E := fun s st =>
  wpAny_mono (h s st) (fun _ _ z => wpAny_mono z (fun _ _ z => by cases z with | mk J N d1 d2 σ₂ e PP IT q => exact ⟨J, N, _, σ₂, [], e, fun _ => rfl, (fun b hb => nomatch hb), PP, IT.toG, by rw [drp_nil]; exact q⟩) fun _ _ z => z) fun _ _ z => z
theorem WX_ForG {tg iter : Expr} {body orelse : List Stmt} {pos : Pos} {Q : FV → S → Prop} (ok : Ok X n) (hc : X.ctx = none) (he : X.env = X.fenv) (I : Nat → S → Prop)
    (h : WItG X iter tg True σ (fun N P σ₁ _ => I 0 σ₁ ∧ (∀ i σ', i < N → I i σ' → ∃ σb, (∀ wr, Ok (X.watch wr) n → Asg (X.watch wr) tg (P i) σ' σb) ∧ ∀ wr, Ok (X.watch wr) n → WXs (X.watch wr) body σb (fun f σ₂ => match f with | .next => I (i + 1) σ₂ | .cont => I (i + 1) σ₂ | .brk => Q .next σ₂ | .ret d => Q (.ret d) σ₂) E) ∧
      (∀ σ', I N σ' → WXs X orelse σ' Q E)) E)
    (hs : ∀ env x, foldedSetIterable iter env x = pure x) : WX X (.For tg iter body orelse pos) σ Q E := fun s st => by
  refine wpAny_For (wpAny_mono (h s st) (fun _ _ z => wpAny_mono z (fun it s₂ hh => ?_) fun _ _ z => z) fun _ _ z => z) (hs _)
  obtain ⟨J, N, P, σ₁, to, rfl, h1, hT, P12, IT, i0, hbody, hfin⟩ := hh
  obtain rfl := h1 trivial
  obtain ⟨wr, G, g0, gp, self, next, done⟩ := loopG ok hc IT hT P12.st
  refine codeAny_forLoop_any (fun k s' => ∃ i σ', i + k = N ∧ G i σ' s' ∧ I i σ') (fun k s' hI => ?_) N ⟨0, σ₁, Nat.zero_add _, g0, i0⟩
  obtain ⟨i, σ', hik, g, inv⟩ := hI
  have Pa := P12.trans (gp _ _ _ g)
  by_cases hi : i < N
  · obtain ⟨σb, asg, hb⟩ := hbody i σ' hi inv
    refine next i σ' s' σb _ _ _ hi g (asg wr) (fun okw s₃ P₃ st₃ gn => ?_) fun v s₁ z => z
    refine wpAny_mono (hb wr okw s₃ st₃) (fun f s₄ z => ?_) fun e s₄ z => ?_
    · obtain ⟨gv, σ₄, Pe, r, q⟩ := z
      cases f <;> cases gv <;> first | exact r.elim | skip
      · exact ⟨k - 1, by omega, i + 1, σ₄, by omega, gn _ _ Pe (fun b hb => nomatch hb), q⟩
      · exact ⟨FV.next, σ₄, Pa.trans (P₃.trans (post_unwatch Pe)), trivial, q⟩
      · exact ⟨k - 1, by omega, i + 1, σ₄, by omega, gn _ _ Pe (fun b hb => nomatch hb), q⟩
      · exact ⟨_, σ₄, Pa.trans (P₃.trans (post_unwatch Pe)), r, q⟩
    · obtain ⟨ea, cls, σ₄, Pe, rfl, x, q⟩ := z
      exact noted_Ew ok he ⟨ea, cls, σ₄, Pa.trans (P₃.trans (post_unwatch Pe)), rfl, exc_unwatch x, q⟩
  · obtain rfl : i = N := by omega
    refine done σ' s' _ _ g fun s₃ P₃ => ?_
    rw [drp_nil] at P₃
    exact wpAny_mono ((hfin σ' inv).go (Pa.trans P₃)) (fun _ _ z => z) fun _ _ z => noted_Ew ok he z
theorem WX_For {x : Str} {tp : Pos} {iter : Expr} {body orelse : List Stmt} {pos : Pos} {Q : FV → S → Prop} (ok : Ok X n) (hc : X.ctx = none) (he : X.env = X.fenv) (hx : X.env.kindOf x = some .local) (I : Nat → S → Prop)
    (h : WIt X iter σ (fun N ds σ₁ => I 0 σ₁ ∧ (∀ i σ' wr, i < N → I i σ' → Ok (X.watch wr) n → WXs (X.watch wr) body { σ' with loc := put σ'.loc x (ds i) } (fun f σ₂ => match f with | .next => I (i + 1) σ₂ | .cont => I (i + 1) σ₂ | .brk => Q .next σ₂ | .ret d => Q (.ret d) σ₂) E) ∧
      (∀ σ', I N σ' → WXs X orelse σ' Q E)) E)
    (hs : ∀ env x, foldedSetIterable iter env x = pure x) : WX X (.For (.Name x tp) iter body orelse pos) σ Q E :=
  WX_ForG ok hc he I (WIt.toG fun s st => wpAny_mono (h s st) (fun _ _ z => wpAny_mono z (fun _ _ z => by cases z with | mk J N ds σ₂ e PP IT q => exact ⟨J, N, ds, σ₂, e, PP, IT, q.1, fun i σ' hi inv => ⟨_, fun wr okw => asg_name (sto_local okw hx), fun wr okw => q.2.1 i σ' wr hi inv okw⟩, q.2.2⟩) fun _ _ z => z) fun _ _ z => z) hs
theorem WX_ForT {x1 x2 : Str} {k : Nat} {tp p1 p2 : Pos} {iter : Expr} {body orelse : List Stmt} {pos : Pos} {Q : FV → S → Prop} (ok : Ok X n) (hc : X.ctx = none) (he : X.env = X.fenv) (hx1 : X.env.kindOf x1 = some .local) (hx2 : X.env.kindOf x2 = some .local) (I : Nat → S → Prop)
    (h : WItT X iter σ (fun N d1 d2 σ₁ => I 0 σ₁ ∧ (∀ i σ' wr, i < N → I i σ' → Ok (X.watch wr) n → WXs (X.watch wr) body { σ' with loc := put (put σ'.loc x1 (d1 i)) x2 (d2 i) } (fun f σ₂ => match f with | .next => I (i + 1) σ₂ | .cont => I (i + 1) σ₂ | .brk => Q .next σ₂ | .ret d => Q (.ret d) σ₂) E) ∧
      (∀ σ', I N σ' → WXs X orelse σ' Q E)) E)
    (hs : ∀ env x, foldedSetIterable iter env x = pure x) : WX X (.For (.Tuple [.Name x1 p1, .Name x2 p2] k tp) iter body orelse pos) σ Q E :=
  WX_ForG ok hc he I (WItT.toG fun s st => wpAny_mono (h s st) (fun _ _ z => wpAny_mono z (fun _ _ z => by cases z with | mk J N d1 d2 σ₂ e PP IT q => exact ⟨J, N, d1, d2, σ₂, e, PP, IT, q.1, fun i σ' hi inv => ⟨_, fun wr okw => asg_pair okw hc (sto_local okw hx1) (sto_local okw hx2), fun wr okw => q.2.1 i σ' wr hi inv okw⟩, q.2.2⟩) fun _ _ z => z) fun _ _ z => z) hs
end
end Mine
namespace Mine
open PySem PySem.W PySem.Calls PySem.Spec PyProof.Rows
section
variable {X : Cx} {n : Nat} {σ : S} {E : Value → S → Prop}
structure InC (X Z : Cx) (scope : Scope) (cl : List (Str × Addr)) : Prop where
  K : Z.K = X.K
  w : Z.w = X.w
  prog : Z.prog = X.prog
  ctx : Z.ctx = X.ctx
  scope : Z.env.scope = relabel scope X.env
  cells : Z.env.cells = cl
inductive CompQ (N : Nat) (P R : (Nat → Bool) → (Nat → V) → Prop) : Prop
  | mk (hN : N ≤ 10000) (keep : Nat → Bool) (es : Nat → V) (item : P keep es) (q : R keep es)
end
end Mine
namespace Mine
open PySem PySem.W PySem.Calls PySem.Spec PyProof.Rows
section
variable {X : Cx} {n : Nat} {σ : S} {E : Value → S → Prop}
end
end Mine
namespace Mine
open PySem PySem.W PySem.Calls PySem.Spec PyProof.Rows
noncomputable def fdAt (K : Frag) (a : Addr) : FuncData := match K.lookup a with
  | some ⟨_, _, .func fd, _⟩ => fd
  | _ => default
noncomputable def bodyAt (K : Frag) (a : Addr) : List Stmt := match (fdAt K a).body with
  | .stmts b => b
  | _ => []
noncomputable def isFd (K : Frag) (a : Addr) : Bool := match K.lookup a with
  | some ⟨_, _, .func _, _⟩ => true
  | _ => false
noncomputable def fnOk (K : Frag) (a : Addr) : Bool :=
  isFd K a && codeIn K (fdAt K a).code (fdAt K a).qualname && (match (fdAt K a).body with | .stmts _ => true | _ => false) && (fdAt K a).globals == mainGlobals && (fdAt K a).builtins == builtinsNs &&
  (match (fdAt K a).scope.kind with | .function => true | _ => false) && !(fdAt K a).scope.isCoroutine && !(fdAt K a).scope.isGenerator && (fdAt K a).scope.names.all fun x => match x.2 with | .cell => false | _ => true
theorem FnIs.of {K : Frag} {a : Addr} (h : fnOk K a = true) : FnIs K a (fdAt K a) (bodyAt K a) := by
  unfold fnOk at h
  simp only [Bool.and_eq_true] at h
  obtain ⟨⟨⟨⟨⟨⟨⟨⟨h1, h2⟩, h3⟩, h4⟩, h5⟩, h6⟩, h7⟩, h8⟩, h9⟩ := h
  refine ⟨?_, h2, ?_, ?_, ?_, ?_, ?_, ?_, ?_⟩
  · unfold isFd at h1
    split at h1
    · rename_i q
      rename_i c d fd sl
      have e : fdAt K a = fd := by unfold fdAt; rw [q]
      exact ⟨c, d, sl, by rw [e]; exact q⟩
    · cases h1
  · unfold bodyAt
    split at h3
    · rename_i q; rw [q]
    · cases h3
  · exact eq_of_beq h4
  · exact eq_of_beq h5
  · split at h6
    · assumption
    · cases h6
  · simpa using h7
  · simpa using h8
  · intro x hx e
    have := List.all_eq_true.mp h9 x hx
    rw [e] at this
    cases this
end Mine
namespace Mine
open PySem PySem.W PySem.Calls PySem.Spec PyProof.Rows
section
variable {X : Cx} {n : Nat} {σ : S} {E : Value → S → Prop}
theorem lk_hit {x : Str} {d : V} {r : List (Str × V)} : lk ((x, d) :: r) x = some d := by simp [lk, List.lookup]
theorem lk_skip {x y : Str} {d e : V} {r : List (Str × V)} (h : x ≠ y) (k : lk r x = some d) : lk ((y, e) :: r) x = some d := by
  unfold lk at *
  rw [List.lookup_cons, show (x == y) = false from by simpa using h]
  exact k
theorem lk_cut {x y : Str} {e : V} {r : List (Str × V)} (h : x ≠ y) (k : lk r x = none) : lk ((y, e) :: r) x = none := by
  unfold lk at *
  rw [List.lookup_cons, show (x == y) = false from by simpa using h]
  exact k
theorem lkp_skip {x y : Str} {d e : V} {r : List (Str × V)} (h : x ≠ y) (k : lk r x = some d) : lk (put r y e) x = some d := (lk_put_ne h).trans k
noncomputable def clsOk (K : Frag) (C : Addr) (name : Str) : Bool := match findIn K (.ref C) name with
  | some attr => noGet K attr
  | none => false
theorem KGet.of {K K' : Frag} {C : Addr} {name : Str} (hK : K = K') (h1 : plainGet K' C name = true) (h2 : hasDictIn K' C = true) (h3 : clsOk K' C name = true) : KGet K C name := by
  subst hK
  refine ⟨h1, h2, ?_⟩
  unfold clsOk at h3
  split at h3
  · rename_i attr q; exact ⟨attr, q, h3⟩
  · cases h3
theorem KSet.of {K K' : Frag} {C : Addr} {name : Str} (hK : K = K') (h1 : findIn K' (.ref C) "__setattr__" = some (some (.builtin "object.__setattr__"))) (h2 : plainOver K' C = true) (h3 : takerIn K' C name = some none) (h4 : hasDictIn K' C = true) : KSet K C name := by subst hK; exact ⟨h1, h2, h3, h4⟩
theorem KMeth.of {K K' : Frag} {C f : Addr} {name : Str} (hK : K = K') (h1 : plainGet K' C name = true) (h2 : findIn K' (.ref C) name = some (some (.ref f))) (h3 : isFn K' (.ref f) = true) (h4 : keepIn K' (.ref f) = true) : KMeth K C name f := by subst hK; exact ⟨h1, h2, h3, h4⟩
theorem KB.of {K' : Frag} {x : Str} {v : Value} (hK : X.K = K') (h1 : X.env.kindOf x = some .globalImplicit) (h2 : nsIn K' mainGlobals x = some none) (h3 : bootBuiltins x = some v) : KB X x v := by subst hK; exact ⟨h1, h2, h3⟩
theorem W_gl {K' : Frag} {x : Str} {pos : Pos} {v : Value} {Q : V → S → Prop} (ok : Ok X n) (hK : X.K = K') (hx : X.env.kindOf x = some .globalImplicit) (e : nsIn K' mainGlobals x = some (some v)) (hd : (x == ("__debug__" : Str)) = false) (q : Q (.lit v) σ) : WE X (.Name x pos) σ Q E :=
  W_global ok hx (by rw [hK]; exact e) q hd
theorem W_bi {K' : Frag} {x : Str} {pos : Pos} {v : Value} {Q : V → S → Prop} (ok : Ok X n) (hK : X.K = K') (hx : X.env.kindOf x = some .globalImplicit) (e : nsIn K' mainGlobals x = some none) (hv : bootBuiltins x = some v) (hn : x ≠ "__name__") (hd : (x == ("__debug__" : Str)) = false) (q : Q (.lit v) σ) : WE X (.Name x pos) σ Q E :=
  W_builtin ok hx (by rw [hK]; exact e) hv hn q hd
theorem keeps_fn {K' : Frag} {f : Value} (hK : X.K = K') (h : keepIn K' f = true) : Keeps X f := keeps_of (by rw [hK]; exact h)
theorem ht_bi {K' : Frag} {x : Str} {pos : Pos} {v : Value} (ok : Ok X n) (hK : X.K = K') (hx : X.env.kindOf x = some .globalImplicit) (e : nsIn K' mainGlobals x = some none) (hv : bootBuiltins x = some v) (hn : x ≠ "__name__") (hd : (x == ("__debug__" : Str)) = false) :
    ∀ (A : Around) (σ' : S) (s : Shared) (Q' : Value → Shared → Prop) (E' : Value → Shared → Prop), St X σ' s.heap → Q' v s → wpAny (model X.prog X.w) A (eval (.Name x pos) X.env) Q' E' s := fun A σ' s Q' E' st q =>
  Name_function_global ok.kind hx (loadGlobal_builtin (ok.genv ▸ ok.top.g.keeps st.base) (mg_none_of ok.inK ok.top.g (by rw [hK]; exact e)) (ok.benv ▸ ok.top.b.keeps st.base) ((ok.top.builtins x hn).trans hv) q) hd
theorem ht_gl {K' : Frag} {x : Str} {pos : Pos} {v : Value} (ok : Ok X n) (hK : X.K = K') (hx : X.env.kindOf x = some .globalImplicit) (e : nsIn K' mainGlobals x = some (some v)) (hd : (x == ("__debug__" : Str)) = false) :
    ∀ (A : Around) (σ' : S) (s : Shared) (Q' : Value → Shared → Prop) (E' : Value → Shared → Prop), St X σ' s.heap → Q' v s → wpAny (model X.prog X.w) A (eval (.Name x pos) X.env) Q' E' s := fun A σ' s Q' E' st q =>
  Name_function_global ok.kind hx (loadGlobal_global (ok.genv ▸ ok.top.g.keeps st.base) (mg_of ok.inK ok.top.g (by rw [hK]; exact e)) q) hd
theorem W_field {x attr : Str} {xp pos : Pos} {a C dx : Addr} {fs : List (Str × V)} {d : V} {Q : V → S → Prop} (ok : Ok X n) (hx : X.env.kindOf x = some .local) (hd : (x == ("__debug__" : Str)) = false) (ex : lk σ.loc x = some (.ref a)) (h1 : σ.hp a = some (.inst C dx)) (h2 : σ.hp dx = some (.dict fs)) (kg : KGet X.K C attr)
    (e : lk fs attr = some d) (hl : ∀ w, d ≠ .lit w) (q : Q d σ) : WE X (.Attribute (.Name x xp) attr pos) σ Q E :=
  W_Attr (W_local ok hx ex (get_field ok h1 h2 kg e hl q) hd)
noncomputable def isCls (K : Frag) (C : Addr) : Bool := match K.lookup C with
  | some ⟨_, _, .cls _, _⟩ => true
  | _ => false
theorem KExc.of {K K' : Frag} {C : Addr} (hK : K = K') (h1 : isCls K' C = true) (h2 : subIn K' (.ref C) (.type "BaseException") = some true) (h3 : typeIn K' (.ref C) = some (.type "type")) : KExc K C := by
  subst hK
  refine ⟨?_, h2, h3⟩
  unfold isCls at h1
  split at h1
  · rename_i q; exact ⟨_, _, _, _, q⟩
  · cases h1
structure In (X Y : Cx) (fd : FuncData) : Prop where
  K : Y.K = X.K
  w : Y.w = X.w
  prog : Y.prog = X.prog
  ctx : Y.ctx = X.ctx
  env : Y.env = Y.fenv
  scope : Y.env.scope = fd.scope
theorem Call.fn' {K' : Frag} {f : Addr} {ds : List V} {names : List Str} {loc0 : List (Str × V)} {Q : V → S → Prop} (ok : Ok X (n + 1)) (hK : X.K = K') (hf : fnOk K' f = true)
    (hb : ∀ vs : List Value, vs.length = names.length → ∀ S, peek K' S (bindArgs (fdAt K' f) ⟨vs, []⟩) = some (names.zip vs)) (hl : (names.all fun x => (fdAt K' f).scope.names.lookup x == some .local) = true) (hn : names.Nodup) (hlen : ds.length = names.length) (h0 : loc0 = names.zip ds)
    (h : ∀ Y, Ok Y n → In X Y (fdAt K' f) → WXs Y (bodyAt K' f) ⟨loc0, σ.hp⟩ (fun fl σ' => Q (retV fl) ⟨σ.loc, σ'.hp⟩) (fun c σ' => E c ⟨σ.loc, σ'.hp⟩)) : Call X (.ref f) ds σ Q E := by
  subst h0
  subst hK
  exact Call.fn ok (FnIs.of hf) (fun vs s st vm => binds_place (fun vs e => kp_binds (st.inK ok) (hb vs e)) hl hn hlen vm) fun L okL => h _ okL ⟨rfl, rfl, rfl, rfl, rfl, rfl⟩
theorem len_one {vs : List Value} {n : Nat} (e : vs.length = n + 1) : ∃ v ws, vs = v :: ws ∧ ws.length = n := by
  cases vs with
  | nil => cases e
  | cons v ws => exact ⟨v, ws, rfl, Nat.succ.inj e⟩
theorem bind1 {P : List Value → Prop} (h : ∀ v, P [v]) : ∀ vs : List Value, vs.length = 1 → P vs := fun vs e => by
  obtain ⟨v, ws, rfl, e'⟩ := len_one e
  cases List.eq_nil_of_length_eq_zero e'; exact h v
theorem bind2 {P : List Value → Prop} (h : ∀ v w, P [v, w]) : ∀ vs : List Value, vs.length = 2 → P vs := fun vs e => by
  obtain ⟨v, ws, rfl, e'⟩ := len_one e
  exact bind1 (P := fun ws => P (v :: ws)) (fun w => h v w) ws e'
theorem bind3 {P : List Value → Prop} (h : ∀ u v w, P [u, v, w]) : ∀ vs : List Value, vs.length = 3 → P vs := fun vs e => by
  obtain ⟨v, ws, rfl, e'⟩ := len_one e
  exact bind2 (P := fun ws => P (v :: ws)) (fun w => h v w) ws e'
theorem bind4 {P : List Value → Prop} (h : ∀ u v w z, P [u, v, w, z]) : ∀ vs : List Value, vs.length = 4 → P vs := fun vs e => by
  obtain ⟨v, ws, rfl, e'⟩ := len_one e
  exact bind3 (P := fun ws => P (v :: ws)) (fun w => h v w) ws e'
theorem kindE {env : Env} {fd : FuncData} {x : Str} {k : Option NameKind} (h : env.scope = fd.scope) (e : fd.scope.names.lookup x = k) : env.kindOf x = k := by unfold Env.kindOf; rw [h]; exact e
theorem KExcSet.of {K K' : Frag} {C : Addr} {name : Str} (hK : K = K') (h1 : findIn K' (.ref C) "__setattr__" = some (some (.builtin "object.__setattr__"))) (h2 : ∃ cd, clsIn K' C = some cd ∧ cd.hasDict = true ∧ ∀ self, refuseLoop self "__setattr__" cd.mro = pure ()) (h3 : mroIn K' C (.type "object") = some true)
    (h4 : takerIn K' C name = some none) : KExcSet K C name := by subst hK; exact ⟨h1, h2, h3, h4⟩
end
end Mine
namespace Mine
open PySem PySem.W PySem.Calls PySem.Spec PyProof.Rows
section
variable {X : Cx} {n : Nat} {σ : S} {E : Value → S → Prop}
theorem Call.exc' {K' : Frag} {fI C : Addr} {names : List Str} {ds : List V} {loc0 : Addr → List (Str × V)} {Q : V → S → Prop}
    {nm qn : Str} {N : Addr} {bs bm : List Value} {hdct : Bool} {sn : List Str} {sub : List Value} {ab : Bool} {col : Option Bool} {dd : Option Addr} {k0 k1 k2 k3 k5 : Option Value} {B newId initId : String}
    (FB : ExcBaseFacts B newId initId bm) (ok : Ok X (n + 1)) (hK : X.K = K') (hC : K'.lookup C = some (excClassObj nm qn C N bs bm hdct sn sub ab col dd k0 k1 k2 k3 k5 newId)) (km : KMakeExc K' C fI) (hf : fnOk K' fI = true) (hds : ds.length ≤ 100)
    (hb : ∀ vs : List Value, vs.length = names.length → ∀ S, peek K' S (bindArgs (fdAt K' fI) ⟨vs, []⟩) = some (names.zip vs)) (hl : (names.all fun x => (fdAt K' fI).scope.names.lookup x == some .local) = true) (hn : names.Nodup) (hlen : ds.length + 1 = names.length) (h0 : ∀ a, loc0 a = names.zip (.ref a :: ds))
    (h : ∀ Y a, Ok Y n → In X Y (fdAt K' fI) → (∃ L, Y.env = callEnv (fdAt K' fI) L fI) → σ.hp a = none → WAt Y (bodyAt K' fI) (execs (bodyAt K' fI) Y.env) FM ⟨loc0 a, upd σ.hp a (.exc C none)⟩ (fun fl σ' => retV fl = .none ∧ Q (.ref a) ⟨σ.loc, σ'.hp⟩) (fun c σ' => E c ⟨σ.loc, σ'.hp⟩)) : Call X (.ref C) ds σ Q E := by
  subst hK
  refine Call.exc FB ok hC km (FnIs.of hf) hds (loc0 := loc0) (fun a vs s mu inK vm => ?_) fun A' a L hA ha okL => h _ a okL ⟨rfl, rfl, rfl, rfl, rfl, rfl⟩ ⟨L, rfl⟩ ha
  rw [h0]
  exact binds_place (fun vs e => kp_binds inK (hb vs e)) hl hn (by simpa using hlen) vm
theorem Call.make' {K' : Frag} {fI C : Addr} {names : List Str} {ds : List V} {loc0 : Addr → List (Str × V)} {Q : V → S → Prop} (ok : Ok X (n + 1)) (hK : X.K = K') (km : KMake K' C fI) (hf : fnOk K' fI = true)
    (hb : ∀ vs : List Value, vs.length = names.length → ∀ S, peek K' S (bindArgs (fdAt K' fI) ⟨vs, []⟩) = some (names.zip vs)) (hl : (names.all fun x => (fdAt K' fI).scope.names.lookup x == some .local) = true) (hn : names.Nodup) (hlen : ds.length + 1 = names.length) (h0 : ∀ a, loc0 a = names.zip (.ref a :: ds))
    (h : ∀ Y a dx, Ok Y n → In X Y (fdAt K' fI) → σ.hp a = none → σ.hp dx = none → a ≠ dx → WXs Y (bodyAt K' fI) ⟨loc0 a, upd (upd σ.hp dx (.dict [])) a (.inst C dx)⟩ (fun fl σ' => retV fl = .none ∧ Q (.ref a) ⟨σ.loc, σ'.hp⟩) (fun c σ' => E c ⟨σ.loc, σ'.hp⟩)) : Call X (.ref C) ds σ Q E := by
  subst hK
  refine Call.make ok km (FnIs.of hf) (loc0 := loc0) (fun a vs s mu inK vm => ?_) fun A' a dx L hA ha hd hne okL => h _ a dx okL ⟨rfl, rfl, rfl, rfl, rfl, rfl⟩ ha hd hne
  rw [h0]
  exact binds_place (fun vs e => kp_binds inK (hb vs e)) hl hn (by simpa using hlen) vm
theorem WAt_super {fI C a : Addr} {sf y : Str} {od : Option Addr} {body : List Stmt} {p0 p1 ap np pos pos' : Pos} {Q : FV → S → Prop} {dy : V}
    {nm qn : Str} {N : Addr} {bs bm : List Value} {hdct : Bool} {sn : List Str} {sub : List Value} {ab : Bool} {col : Option Bool} {dd : Option Addr} {k0 k1 k2 k3 k5 : Option Value} {newId : String} {r : List Value}
    (FB : ExcBaseFacts "Exception" newId "Exception.__init__" bm) (ok : Ok X n) (hC : X.K.lookup C = some (excClassObj nm qn C N bs bm hdct sn sub ab col dd k0 k1 k2 k3 k5 newId)) (hbm : bm = .type "Exception" :: r)
    (ks : KSup X fI C sf) (hself : lk σ.loc sf = some (.ref a)) (h1 : σ.hp a = some (.exc C od)) (hy : lk σ.loc y = some dy) (hyk : X.env.kindOf y = some .local) (hyd : (y == ("__debug__" : Str)) = false)
    (hline : (ap.endLine == pos.line) = true) (hsw : ∀ env, swapsWith (.Call (.Attribute (.Call (.Name "super" p0) [] [] p1) "__init__" ap) [.Name y np] [] pos) none pos'.line env = pure false) (q : Q .next σ) :
    WAt X body (exec (.Expr (.Call (.Attribute (.Call (.Name "super" p0) [] [] p1) "__init__" ap) [.Name y np] [] pos) pos') X.env) FM σ Q E := fun s st =>
  super_stmt FB ok hC hbm ks hself h1 hy hyk hyd hline hsw q (Post.refl st)
theorem Ew.drop {σ : S} {s s' : Shared} {e : Value} (h : Ew X σ s (fun c σ' => ∃ hp', (∀ a o, hp' a = some o → σ'.hp a = some o) ∧ E c ⟨σ'.loc, hp'⟩) e s') : Ew X σ s E e s' := by
  obtain ⟨ea, cls, σ', P, r, x, hp', hs, q⟩ := h
  refine ⟨ea, cls, _, post_drop P hs (fun _ _ e => e), r, ?_, q⟩
  have nm : ∀ a, ¬ σ'.mu a → ¬ S.mu ⟨σ'.loc, hp'⟩ a := fun a n m => by
    cases q : hp' a with
    | none => exact m q
    | some o => exact n (by show σ'.hp a ≠ none; rw [hs a o q]; exact Option.some_ne_none _)
  obtain ⟨⟨b1, b2⟩, pe, oe, vs, a0, g, c, d, v0, hx⟩ := x
  refine ⟨⟨b1, nm _ b2⟩, pe, oe, vs, a0, g, c, d, v0, ?_⟩
  rcases hx with v1 | ⟨T, oT, ts, v1, ⟨bT, mT⟩, pT, r⟩
  · exact .inl v1
  · exact .inr ⟨T, oT, ts, v1, ⟨bT, nm _ mT⟩, pT, r⟩
theorem Call.dropE {f : Value} {ds : List V} {Q : V → S → Prop} (h : Call X f ds σ Q (fun c σ' => ∃ hp', (∀ a o, hp' a = some o → σ'.hp a = some o) ∧ E c ⟨σ'.loc, hp'⟩)) : Call X f ds σ Q E := fun vs s st vm =>
  wpAny_mono (h vs s st vm) (fun _ _ q => q) fun _ _ q => q.drop
end
end Mine
namespace Mine
open PySem PySem.W PySem.Calls PySem.Spec PyProof.Rows
theorem vms_ints {mu : Addr → Prop} {h : Heap} {vs : List Value} {ns : List Int} (x : IntsAre vs ns) : VMs mu h vs (ns.map .int) := by
  induction x with
  | nil => exact .nil
  | cons n t _ ih => exact .cons (.int n t) ih
theorem launch {prog : Program} {w : World} {K : Frag} {p : Program} {loose : List Str} {mg mb : Str → Option Value} {s₁ : Shared} {h₁ : Heap} {name : Str} {fd : FuncData} {fa : Addr} {cd : Value} {al : Addr} {vs : List Value} {ns : List Int} {m : Str → Option Value} {tk : Nat} {body : List Stmt}
    (hK : K.In s₁.heap) (T : TopRead p loose mg mb s₁.heap) (hL : s₁.heap.IsList al vs.toArray) (hI : IntsAre vs ns) (F : Fr s₁.heap s₁.heap.objs.size h₁ m) (hm : m "script" = some (.ref al)) (hk : fd.scope.kind = .function)
    (h : ∀ X : Cx, Ok X 40 → X.K = K → X.prog = prog → X.w = w → X.ctx = none → In X X fd → WXs X body ⟨[("script", .lst (ns.map .int))], fun _ => none⟩ (fun fl _ => fl = .ret (.bool true)) F0) :
    wpAny (model prog w) (callerA.deeper (envOf name fd.scope s₁.heap.objs.size fa cd)) (execs body (envOf name fd.scope s₁.heap.objs.size fa cd))
      (fun f s' => f = .ret (.bool true) ∧ ∃ h' tk', s' = { s₁ with heap := h', toks := tk' } ∧ s₁.heap.StaysIn h') (fun _ _ => False) { s₁ with heap := h₁, toks := tk } := by
  let env := envOf name fd.scope s₁.heap.objs.size fa cd
  let X : Cx := { prog := prog, w := w, K := K, p := p, loose := loose, mg := mg, mb := mb, base := s₁.heap, A := callerA.deeper env, env := env, fenv := env, L := s₁.heap.objs.size, outer := [], prot := [] }
  have hn : s₁.heap.get? s₁.heap.objs.size = none := by
    cases hq : s₁.heap.get? s₁.heap.objs.size with
    | none => rfl
    | some o => exact absurd (Heap.lt_size hq) (Nat.lt_irrefl _)
  have ok : Ok X 40 := ⟨hK, T, rfl, rfl, rfl, hk, rfl, rfl, Nat.le_refl _, by simp [X], rfl, (by intro p e; cases e), (by show 1 + claimMargin + 1 + 2 * 40 + 8 < recursionLimit; decide), (by show 4 + 3 + 20 * 40 + 300 < cLine; decide)⟩
  have hl : VM (fun _ => False) h₁ (.ref al) (.lst (ns.map .int)) := by
    obtain ⟨o, ho, hc, n, hd⟩ := hL
    exact .lst (F.keep _ _ ho) hc hd (fun z => z) (vms_ints hI)
  have mu0 : S.mu (⟨[("script", .lst (ns.map .int))], fun _ => none⟩ : S) = fun _ => False := by
    funext a; simp [S.mu]
  have st : St X ⟨[("script", .lst (ns.map .int))], fun _ => none⟩ h₁ := by
    refine ⟨F.keep, ⟨m, F.ns, fun x d e => ?_⟩, (by intro a o e; cases e), (by simp [S.mu]), (by intro a ha; cases ha), ?_⟩
    · by_cases q : x = "script"
      · subst q
        rw [show lk [(("script" : Str), V.lst (ns.map .int))] "script" = some (V.lst (ns.map .int)) from by simp [lk, List.lookup]] at e
        cases e
        exact ⟨_, hm, by rw [mu0]; exact hl⟩
      · rw [lk_cut q rfl] at e
        cases e
    · intro e he
      simp only [X, List.mem_singleton] at he
      subst he
      obtain ⟨o, es, ep, ho, hd, _⟩ := F.ns
      exact ⟨by show fd.scope.kind ≠ .module; rw [hk]; decide, _, o, es, ep, rfl, hn, by simp [S.mu], ho, hd⟩
  have run := h X ok rfl rfl rfl rfl ⟨rfl, rfl, rfl, rfl, rfl, rfl⟩ { s₁ with heap := h₁, toks := tk } st
  refine wpAny_mono run (fun f s' q => ?_) (fun e s' q => q.elim0)
  obtain ⟨fl, σ', P, r, q⟩ := q
  subst q
  obtain ⟨h', tk', e⟩ := P.upd
  have hf : f = .ret (.bool true) := by
    cases f with
    | ret v =>
      have r' : VM σ'.mu s'.heap v (.bool true) := r
      cases r'; rfl
    | next => exact r.elim
    | brk => exact r.elim
    | cont => exact r.elim
  exact ⟨hf, h', tk', e, fun b o z => by have := P.st.base b o z; rw [e] at this; exact this⟩
end Mine
namespace Mine
open PySem PySem.Builtin.Str
end Mine
namespace Mine
open PySem PySem.W PySem.Calls PySem.Spec PyProof.Rows
section
variable {X : Cx} {n : Nat} {σ : S} {E : Value → S → Prop} {Q : V → S → Prop}
theorem o_divi {a b : Int} (hb : b ≠ 0) (hs : b.natAbs < 1073741824) (q : Q (.int (a.fdiv b)) σ) : Op2 X (binaryOp .FloorDiv) (.int a) (.int b) σ Q E := fun _ _ _ st va wb => by
  cases va; cases wb; exact PyProof.Rows.floordiv_int hb (qw_same st _ (.int _ _) q) (.inl (PyProof.noPylong_small hs))
theorem o_addl {a b : V} {as bs : List V} (ha : Lst σ a as) (hb : Lst σ b bs) (hl : as.length + bs.length ≤ 100000) (q : Q (.lst (as ++ bs)) σ) : Op2 X (binaryOp .Add) a b σ Q E := fun v w s st va wb => by
  obtain ⟨l, ⟨_, dd, _, sl⟩, vs, k, rfl, g, rfl, rfl, vm⟩ := ha.get st va
  obtain ⟨l2, ⟨_, dd2, _, sl2⟩, ws, k2, rfl, g2, rfl, rfl, wm⟩ := hb.get st wb
  have e : vs.toArray ++ ws.toArray = (vs ++ ws).toArray := by simp
  refine concat_meets ⟨_, g, rfl⟩ ⟨_, g2, rfl⟩ noFill_list_add seq_list_add PySem.F.slot_list_add PySem.F.entry_list_add (PySem.F.args_list_add_2 _ _) (list_addW l l2 vs.toArray ws.toArray k k2 dd dd2 sl sl2 (by rw [List.size_toArray, List.size_toArray, vm.length, wm.length, sizeLine_eq]; omega)) ⟨g, g2, ?_⟩
  rw [e]
  have P := st_push st { cls := .type "list", data := .seq (vs ++ ws).toArray }
  exact ⟨_, σ, P, .lst (Heap.get?_push_size _ rfl) rfl rfl (new_off st) ((vm.mono P.ext).append (wm.mono P.ext)), q⟩
theorem s_tupItem {ds : List V} {k : Nat} {d : V} {value slice : Expr} (hk : k ≤ 100000) (e : ds[k]? = some d) (q : Q d σ)
    (hs : ∀ l i u, subscripted slice false (.ref l) (.int i u) = operate [.ref l, .int i u] (getItem (.ref l) (.int i u))) : Op2 X (subscriptTail value slice) (.tup ds) (.int k) σ Q E := fun v w s st va wb => by
  obtain ⟨a, o, vs, m, rfl, g, c, d', _, vms⟩ := va.tupI
  cases wb
  obtain ⟨v, e2, vm⟩ := vms.get e
  have hk2 := (List.getElem?_eq_some_iff.mp e2).1
  exact item_tupleT (l := vs) (j := k) ⟨o, g, c, m, d'⟩ (by omega) (by omega) (by
    unfold seqIndex?
    have h0 : ¬ ((k : Int) < 0) := by omega
    have h1 : (0 : Int) ≤ (k : Int) ∧ (k : Int) < (vs.length : Int) := by omega
    simp [h0, h1, hk2]) e2 (qw_self st vm q) (hs _ _ _)
theorem fills_iadd_list : fillsInplaceSlot (.type "list") "add" (Operator.Add == .Add) = pure false := by
  unfold fillsInplaceSlot
  show (typeLookup (.type "list") (dunderI "add") >>= fun fi => pure (fi.isSome && !isSeqSlot fi)) = pure false
  rw [F.slot_list_iadd.lookup]; rfl
theorem seq_iadd_list : seqSlot? (.type "list") (dunderI "add") = pure (some (.builtin "list.__iadd__")) := PyProof.Rows.seqSlot_of F.slot_list_iadd.lookup (by decide +kernel)
theorem list_iaddW (l b : Addr) (items items2 : Array Value) (n n2 : Nat) (dd2 : Option Addr) (sl2 : Array (Option Value)) (hs0 : ¬(!items.isEmpty && Builtin.List.listTooLong (items.size + items2.size)) = true) (hs1 : items.size ≤ sizeLine) (hs2 : items.size + items2.size ≤ sizeLine + 1) :
    Meets (Builtin.«list.__iadd__» ⟨[.ref l, .ref b], []⟩) (fun _ R s => s.heap.get? l = some { cls := .type "list", dict := none, data := .seq items n, slots := #[] } ∧ s.heap.get? b = some { cls := .type "list", dict := dd2, data := .seq items2 n2, slots := sl2 } ∧ R (.ok (.ret (Value.ref l))) { s with heap := s.heap.update l (Obj.mapSeq fun x => x ++ items2), toks := s.toks }) :=
  .of_wp fun prog w A R s h => by
    obtain ⟨hp, g, d, tk, os⟩ := s; obtain ⟨hl, hb, h⟩ := h; have f1 := AutoSeq1.idx_int; have f2 := AutoSeq1.sub_tuple_tuple; have f3 := AutoSeq1.sub_list_list; have f4 := AutoSeq1.sub_tuple_list; have f5 := AutoSeq1.sub_list_tuple;
    have hz' : (items ++ items2).size ≤ sizeLine + 1 := by rw [Array.size_append]; exact hs2
    wp_walk using (wpAny_updateSeq hl rfl (hz := hs1) (_hz' := hz')), AutoSeq1.wpAny_loadPart' hl, AutoSeq1.wpAny_loadPart' hb; exact ⟨_, rfl, h⟩
theorem o_iaddl {a : Addr} {d : V} {as bs : List V} (ok : Ok X n) (h1 : σ.hp a = some (.lst as)) (hb : Lst σ d bs) (hl : as.length + bs.length ≤ 100000) (q : Q (.ref a) { σ with hp := upd σ.hp a (.lst (as ++ bs)) }) : Op2 X (inplaceOp .Add) (.ref a) d σ Q E := fun v w s st va wb => by
  cases va
  obtain ⟨⟨vs, k, g, vm⟩, _⟩ := st.own a _ h1
  obtain ⟨l2, ⟨_, dd2, _, sl2⟩, ws, k2, rfl, g2, rfl, rfl, wm⟩ := hb.get st wb
  have e1 := vm.length
  have e2 := wm.length
  have ha : s.TypeIs (.ref a) "list" := ⟨_, g, rfl⟩
  have hb' : s.TypeIs (.ref l2) "list" := ⟨_, g2, rfl⟩
  unfold inplaceOp
  refine wpAny_holding ?_
  refine wpAny_bind (wpAny_typeOf ha (wpAny_bind (wpAny_of_eq fills_iadd_list ?_)))
  show wpAny _ _ (if false = true then _ else _) _ _ _
  rw [if_neg Bool.false_ne_true]
  refine wpAny_bind (wpAny_binaryOp1_none (nm := "add") ha hb' noFill_list_add ?_)
  refine wpAny_bind (wpAny_of_eq seq_iadd_list ?_)
  refine wpAny_bind (wpAny_rule ?_)
  have t1 : ¬(!vs.toArray.isEmpty && Builtin.List.listTooLong (vs.toArray.size + ws.toArray.size)) = true := by
    have : Builtin.List.listTooLong (vs.toArray.size + ws.toArray.size) = false := by simp [Builtin.List.listTooLong, sizeLine]; omega
    rw [this]; simp
  have t2 : vs.toArray.size ≤ sizeLine := by rw [List.size_toArray, sizeLine_eq]; omega
  have t3 : vs.toArray.size + ws.toArray.size ≤ sizeLine + 1 := by rw [List.size_toArray, List.size_toArray, sizeLine_eq]; omega
  refine call_meets F.slot_list_iadd ha F.entry_list_iadd (F.args_list_iadd_2 _ _) (list_iaddW a l2 vs.toArray ws.toArray k k2 dd2 sl2 t1 t2 t3) ⟨g, g2, ?_⟩
  obtain ⟨m, hn, hm⟩ := st.names
  have aL : X.env.locals ≠ a := fun e => st.locOff (by rw [e]; show σ.hp a ≠ none; rw [h1]; exact Option.some_ne_none _)
  have g' := Heap.get?_update_self (Obj.mapSeq fun x => x ++ ws.toArray) g rfl
  have P := post_write (h' := s.heap.update a (Obj.mapSeq fun x => x ++ ws.toArray)) (tk := s.toks) (a := a) (o := .lst (as ++ bs)) ok st (fun b o n1 _ e => (Heap.get?_update_other _ _ (Ne.symm n1)).trans e) ⟨m, hn.at' (fun o e => (Heap.get?_update_other _ _ (Ne.symm aL)).trans e), hm⟩ (.inl (by rw [h1]; exact Option.some_ne_none _))
    fun _ _ mv => ⟨vs ++ ws, _, by rw [g']; simp [Obj.mapSeq]; rfl, (mv _ _ vm).append (mv _ _ wm)⟩
  exact ⟨.ref a, _, P, .ref _, q⟩
end
inductive Tag {α : Type} (a : α) : Prop
  | mk
theorem atoms : ("a" : Str) = ⟨#[97]⟩ := by kernel_rfl
noncomputable def keep {α : Type} (a : α) (_ : Tag a) (s : Str) (_ : s = ⟨#[97]⟩) : α := a
end Mine
namespace Mine
open PySem PySem.W PySem.Calls PySem.Spec PyProof.Rows
section
variable {X : Cx} {n : Nat} {σ : S} {E : Value → S → Prop}
end
end Mine
namespace Mine
open PySem PySem.W PySem.Calls PySem.Spec PyProof.Rows
section
variable {X : Cx} {n : Nat} {σ : S} {E : Value → S → Prop}
theorem WX_Raise {e : Expr} {pos : Pos} {Q : FV → S → Prop} (ok : Ok X n) (hctx : ∀ p, X.ctx = some p → p.2 = true)
    (h : WE X e σ (RaiseQ X E) E) :
    WX X (.Raise (some e) none pos) σ Q E := fun s st => by
  rw [arm_exec_Raise]
  refine wpAny_bind (wpAny_standAt ?_)
  unfold raiseStmt
  show wpAny _ _ ((do let v ← eval e X.env; standAt pos; pure v) >>= _) _ _ _
  refine wpAny_bind (wpAny_bind (h.run (Post.refl st) fun v s₁ d σ₁ _ P₁ vm h₁ => wpAny_bind (wpAny_standAt (wpAny_pure ?_))))
  obtain ⟨a, C, od, hp, rfl, h1, kx, hs, ha, q⟩ := h₁
  obtain rfl := vm.refI
  obtain ⟨⟨vs, a0, g, v0, v1, v6⟩, _⟩ := P₁.st.own a _ h1
  have inK := P₁.st.inK ok
  obtain ⟨hh, gn, dr, tk, os⟩ := s₁
  dsimp only at inK g
  have L1 : Looks (model X.prog X.w) hh (typeOf (.ref a)) (.ref C) := (Looks.ld g).andThen .now
  have L2 := looks_subIn (M := model X.prog X.w) inK kx.base
  have L3 := looks_typeIn (M := model X.prog X.w) inK kx.type
  have L4 : Looks (model X.prog X.w) hh (isType (.ref a)) false := (Looks.ld g).andThen .now
  have L6 : Looks (model X.prog X.w) hh (isExcClass (.ref a)) false := L4.andThen .now
  have L7 : Looks (model X.prog X.w) hh (isInstance (.ref a) (.type "BaseException")) true := L1.andThen L2
  have L5 : Looks (model X.prog X.w) hh (excFromValue (.ref a) "exceptions must derive from BaseException") (.ref a) := L6.andThen (L7.andThen .now)
  have L8 : Looks (model X.prog X.w) hh (raisedInstance (.ref a)) (.ref a) := L1.andThen (L3.andThen .now)
  refine wpAny_bind (wpAny_pure ?_)
  refine wpAny_bind (wpAny_holding (L5.here ?_))
  dsimp only
  have P := P₁
  refine wpAny_bind (L4.here ?_)
  rw [if_neg (by decide)]
  refine wpAny_bind (L8.here ?_)
  unfold setFlight
  refine wpAny_bind (wpAny_bind (wpAny_field g rfl v1 ?_))
  rw [if_neg (by simp)]
  refine wpAny_pure ?_
  exact wpAny_mono (raise_new ok P h1 g v0 v1 v6 hs ha hctx q) (fun _ _ q => by obtain ⟨_, _, _, _, z⟩ := q; exact z.elim) fun _ _ e => e
theorem binds_placeD {fd : FuncData} {names : List Str} {ds : List V} {mu : Addr → Prop} {s : Shared} {vs ws : List Value} (hb : BindsTo s fd ⟨ws, []⟩ (names.zip vs)) (hl : (names.all fun x => fd.scope.names.lookup x == some .local) = true) (hn : names.Nodup) (hlen : ds.length = names.length)
    (vm : VMs mu s.heap vs ds) : ∃ binds, BindsTo s fd ⟨ws, []⟩ binds ∧ (∀ y ∈ binds, fd.scope.names.lookup y.1 = some .local) ∧ (∀ x d, lk (names.zip ds) x = some d → ∃ v, binds.reverse.lookup x = some v ∧ VM mu s.heap v d) := by
  refine ⟨names.zip vs, hb, fun y hy => ?_, fun x d e => ?_⟩
  · have := List.all_eq_true.mp hl y.1 (List.of_mem_zip hy).1
    simpa using this
  · have rev : ∀ (l : List (Str × Value)), (l.map (·.1)).Nodup → ∀ x v, (x, v) ∈ l → l.reverse.lookup x = some v := by
      intro l hnd x v hm
      have hnd' : ((l.reverse).map (·.1)).Nodup := by rw [List.map_reverse]; exact (List.reverse_perm _).nodup_iff.mpr hnd
      have hm' : (x, v) ∈ l.reverse := List.mem_reverse.mpr hm
      generalize l.reverse = r at hnd' hm'
      induction r with
      | nil => cases hm'
      | cons p r ih =>
        rw [List.map_cons, List.nodup_cons] at hnd'
        rcases List.mem_cons.mp hm' with rfl | hm'
        · simp [List.lookup]
        · have : x ≠ p.1 := fun q => hnd'.1 (q ▸ List.mem_map.mpr ⟨(x, v), hm', rfl⟩)
          rw [List.lookup_cons, show (x == p.1) = false from by simpa using this]
          exact ih hnd'.2 hm'
    have key : ∀ (ns : List Str) (vs : List Value) (ds : List V), VMs mu s.heap vs ds → ns.length = ds.length → lk (ns.zip ds) x = some d → ∃ v, (x, v) ∈ ns.zip vs ∧ VM mu s.heap v d := by
      intro ns
      induction ns with
      | nil => intro vs ds _ _ e; simp [lk] at e
      | cons y ns ih =>
        intro vs ds vm hl e
        cases vm with
        | nil => simp at hl
        | @cons v vs d' ds a r =>
          by_cases q : x = y
          · subst q
            simp [lk, List.lookup] at e
            subst e
            exact ⟨v, by simp, a⟩
          · have e' : lk (ns.zip ds) x = some d := by
              simp only [lk, List.zip_cons_cons, List.lookup_cons, show (x == y) = false from by simpa using q] at e
              exact e
            obtain ⟨w, hm, wm⟩ := ih vs ds r (by simpa using hl) e'
            exact ⟨w, by simp [hm], wm⟩
    obtain ⟨v, hm, wm⟩ := key names vs ds vm hlen.symm e
    refine ⟨v, rev _ ?_ x v hm, wm⟩
    rw [List.map_fst_zip (by rw [vm.length, hlen]; exact Nat.le_refl _)]
    exact hn
theorem Call.fnD {K' : Frag} {f : Addr} {ds : List V} {names : List Str} {x : Str} {v0 : Value} {d0 : V} {loc0 : List (Str × V)} {Q : V → S → Prop} (ok : Ok X (n + 1)) (hK : X.K = K') (hf : fnOk K' f = true)
    (hb : ∀ vs : List Value, vs.length = names.length → ∀ S, peek K' S (bindArgs (fdAt K' f) ⟨vs, []⟩) = some ((names ++ [x]).zip (vs ++ [v0]))) (hl : ((names ++ [x]).all fun x => (fdAt K' f).scope.names.lookup x == some .local) = true) (hn : (names ++ [x]).Nodup) (hlen : ds.length = names.length) (hv : ∀ mu h, VM mu h v0 d0) (h0 : loc0 = (names ++ [x]).zip (ds ++ [d0]))
    (h : ∀ Y, Ok Y n → In X Y (fdAt K' f) → WXs Y (bodyAt K' f) ⟨loc0, σ.hp⟩ (fun fl σ' => Q (retV fl) ⟨σ.loc, σ'.hp⟩) (fun c σ' => E c ⟨σ.loc, σ'.hp⟩)) : Call X (.ref f) ds σ Q E := by
  subst h0
  subst hK
  have app : ∀ {mu : Addr → Prop} {h : Heap} (ds : List V) (vs : List Value), VMs mu h vs ds → VMs mu h (vs ++ [v0]) (ds ++ [d0]) := fun {mu h} ds => by
    induction ds with
    | nil => intro vs vm; cases vm; exact .cons (hv _ _) .nil
    | cons d ds ih => intro vs vm; cases vm with | cons a r => exact .cons a (ih _ r)
  exact Call.fn ok (FnIs.of hf) (fun vs s st vm => binds_placeD (vs := vs ++ [v0]) (kp_binds (st.inK ok) (hb vs (vm.length.trans hlen))) hl hn (by simp [hlen]) (app _ _ vm)) fun L okL => h _ okL ⟨rfl, rfl, rfl, rfl, rfl, rfl⟩
end
end Mine
namespace Mine
open PySem PySem.W PySem.Calls PySem.Spec PyProof.Rows
section
variable {X : Cx} {n : Nat} {σ : S} {E : Value → S → Prop}
set_option maxHeartbeats 8000000 in
theorem meets_name (t u : Tok) : ∃ T : Str → Str, (∀ y, T y = Str.ofString "missing " ++ y ++ Str.ofString ", unterminated name") ∧ ∀ z : Str, z.length ≤ 1000000 → Meets (Builtin.«str.__mod__» ⟨[.str "missing %s, unterminated name" t, .str z u], []⟩) (fun _ R s => ∀ t' k, R (.ok (.ret (.str (T z) t'))) { s with toks := k }) := by
  refine ⟨fun y => Str.ofString "missing " ++ y ++ Str.ofString ", unterminated name", fun _ => rfl, ?_⟩
  intro z hz
  apply KPc.meets_of
  intro _ _ _ _ _ _ _
  rw [KPc.entry_is_s]
  unfold Builtin.Str.percentFormat
  refine wpAny_bind (wpAny_isInstance (typeIs_str _ _ _) F.sub_str_tuple ?_)
  refine wpAny_bind (wpAny_of_eq (a := some _) rfl ?_)
  refine wpAny_bind (KPc.wp_fills_str ?_)
  intro _
  kpc_if
  refine wpAny_bind (wpAny_pure ?_)
  refine wpAny_bind ?_
  rw [KPc.range_list]
  refine KPc.start ?_
  intro _ _
  refine KPc.turn ?_; kpc_check; (repeat kpc_if); refine wpAny_pure ?_; refine KPc.after_add0 (y := Str.ofString "missing ") (by kpc_g) (by kernel_rfl) (by kpc_obj) ?_; intro _ _
  refine KPc.turn ?_; kpc_check; (repeat kpc_if); refine wpAny_bind ?_; refine wpAny_holding ?_; (repeat kpc_if); kpc_conv; refine wpAny_pure ?_; refine wpAny_pure ?_; refine KPc.after_str (by kpc_g) hz (by kpc_obj) ?_; intro _ _
  refine KPc.turn ?_; kpc_check; (repeat kpc_if); refine wpAny_pure ?_; refine KPc.after_add (y := Str.ofString ", unterminated name") (by kpc_g) (by kernel_rfl) (by kpc_obj) ?_; intro _ _
  refine KPc.turn ?_; kpc_check; (repeat kpc_if); kpc_close
theorem pct_name {x : List Nat} {f : Str} {Q : V → S → Prop} (hf : f = "missing %s, unterminated name") (hx : x.length ≤ 10000) (q : ∀ y, y.length ≤ 27 + x.length → Q (.str y) σ) : Op2 X (binaryOp .Mod) (.str f.cps.toList) (.str x) σ Q E := by
  subst hf
  intro a b s st va vb
  obtain ⟨t, rfl⟩ := va.strI
  obtain ⟨u, rfl⟩ := vb.strI
  have hlen : (⟨x.toArray⟩ : Str).length ≤ 10000 := by simpa [Str.length] using hx
  have ef : (⟨(Str.ofString "missing %s, unterminated name").cps.toList.toArray⟩ : Str) = Str.ofString "missing %s, unterminated name" := congrArg PySem.Str.mk (Array.toArray_toList ..)
  obtain ⟨T, hT, hm⟩ := meets_name t u
  refine KPc.mod_str (T := T) ef (by omega) hm (fun t' k => ?_)
  rw [hT]
  refine qw_same st _ (.str _ _) (q _ ?_)
  have l3 : (⟨x.toArray⟩ : Str).length = x.length := by simp [Str.length]
  have l1 : (Str.ofString "missing ").length = 8 := by decide +kernel
  have l2 : (Str.ofString ", unterminated name").length = 19 := by decide +kernel
  have e : (Str.ofString "missing " ++ (⟨x.toArray⟩ : Str) ++ Str.ofString ", unterminated name").cps.toList.length = (Str.ofString "missing " ++ (⟨x.toArray⟩ : Str) ++ Str.ofString ", unterminated name").length := by rw [Array.length_toList]; rfl
  rw [e, PySem.Str.length_append, PySem.Str.length_append]
  omega
end
end Mine
namespace Mine
open PySem PySem.W PySem.Calls PySem.Spec PyProof.Rows PySem.Builtin.Str
theorem at_one (x : List Nat) (c i : Nat) : StrLaws.At (mk x) (mk [c]) (mk x).length i ↔ x[i]? = some c := by
  unfold StrLaws.At
  rw [StrLaws.subAt_eq, mk_len, mk_len]
  show i + 1 ≤ x.length ∧ ((x.drop i).take 1 == [c]) = true ↔ _
  constructor
  · rintro ⟨h1, h2⟩
    have h3 : (x.drop i).take 1 = [c] := by simpa using h2
    rw [List.drop_eq_getElem_cons (by omega), List.take_succ_cons] at h3
    rw [List.getElem?_eq_getElem (by omega), (List.cons.inj h3).1]
  · intro h
    obtain ⟨h1, h2⟩ := List.getElem?_eq_some_iff.mp h
    refine ⟨by omega, ?_⟩
    rw [List.drop_eq_getElem_cons h1, h2]; simp
section
variable {X : Cx} {n : Nat} {σ : S} {E : Value → S → Prop} {x y : List Nat}
theorem pct_posA {x : List Nat} {f : Str} {i : Int} {Q : V → S → Prop} (hf : f = "%s at position %d") (hx : x.length ≤ 10000) (h0 : 0 ≤ i) (h1 : i < 10 ^ 10) (q : ∀ y, Q (.str y) σ) : Op2 X (binaryOp .Mod) (.str f.cps.toList) (.tup [.str x, .int i]) σ Q E := by
  subst hf
  intro a b s st va vb
  obtain ⟨t, rfl⟩ := va.strI
  obtain ⟨b, o, vs, n, rfl, g, c, d, _, vm⟩ := vb.tupI
  obtain ⟨v, w, rfl, v1, v2⟩ := vm.two
  obtain ⟨u, rfl⟩ := v1.strI
  obtain ⟨tk, rfl⟩ := v2.intI
  have hlen : (⟨x.toArray⟩ : Str).length ≤ 1000000 := by
    show x.length ≤ _
    exact Nat.le_trans hx (by decide)
  have ef : (⟨(Str.ofString "%s at position %d").cps.toList.toArray⟩ : Str) = Str.ofString "%s at position %d" := congrArg PySem.Str.mk (Array.toArray_toList ..)
  rw [ef]
  exact KPt.bin_left (T := "str") (U := "tuple") (op := .Mod) (by decide) (typeIs_str _ _ _) ⟨o, g, c⟩ F.fills_str_mod KPt.fills_tuple F.slot_str_mod
    (call_meets F.slot_str_mod (typeIs_str _ _ _) F.entry_str_mod (F.args_str_mod_2 _ _) (meets_pos ⟨x.toArray⟩ hlen i h0 h1 t u tk b) ⟨⟨o, g, c, n, d⟩, fun t' k => ⟨(fun e => nomatch e), qw_same st _ (.str _ _) (q _)⟩⟩)
theorem o_inno {c : Nat} (h : c ∉ x) {Q : V → S → Prop} (q : Q (.bool false) σ) : Op2 X (compareOp .In) (.str [c]) (.str x) σ Q E := fun _ _ _ st va wb => by
  obtain ⟨t, rfl⟩ := va.strI
  obtain ⟨u, rfl⟩ := wb.strI
  refine PyProof.Rows.in_str ?_
  rcases StrLaws.occ_head (mk x) (mk [c]) 1 (Nat.le_refl 1) with ⟨e, -⟩ | ⟨i, r, e, ha, -⟩
  · rw [e]; exact qw_self st (.bool _) q
  · exact absurd (List.mem_of_getElem? ((at_one x c i).mp ha)) h
end
end Mine
namespace Mine
open PySem PySem.W PySem.Calls PySem.Spec PyProof.Rows
section
variable {X : Cx} {n : Nat} {σ : S} {E : Value → S → Prop}
theorem o_pow2 {k : Nat} {Q : V → S → Prop} (hk : k ≤ 20) (q : Q (.int ((2 : Int) ^ k)) σ) : Op2 X (binaryOp .Pow) (.int 2) (.int k) σ Q E := fun _ _ _ st va wb => by
  obtain ⟨_, rfl⟩ := va.intI
  obtain ⟨_, rfl⟩ := wb.intI
  by_cases h0 : k = 0
  · subst h0
    exact PySem.AutoIntOps.pow_0 (by decide) (by decide) (qw_same st _ (.int _ _) q)
  · refine PySem.AutoIntOps.pow_4 (by omega) (by simp; omega) (by decide) (by decide) ?_ ?_
    · have : Builtin.Int.intBits 2 = 2 := by decide +kernel
      rw [this]
      unfold Builtin.Int.intTooBig
      have : (40 : Int) ≤ bitsLine := by decide +kernel
      simp; omega
    · rw [Int.toNat_natCast]
      exact qw_same st _ (.int _ _) q
theorem WT_Or4 {x y z t : Expr} {pos : Pos} {Q : Bool → S → Prop} (h : WT X x σ (fun b σ₁ => if b then Q true σ₁ else WT X y σ₁ (fun b σ₂ => if b then Q true σ₂ else WT X z σ₂ (fun b σ₃ => if b then Q true σ₃ else WT X t σ₃ Q E) E) E) E) : WT X (.BoolOp .Or [x, y, z, t] pos) σ Q E := fun _ st =>
  wpAny_isTrue_BoolOp (wpAny_allTrue_Or_cons (h.run (Post.refl st) fun b _ _ _ _ P₁ e q => by
    cases e
    cases b
    · refine wpAny_allTrue_Or_cons (q.run P₁ fun b _ _ _ _ P₂ e q => ?_)
      cases e
      cases b
      · refine wpAny_allTrue_Or_cons (q.run P₂ fun b _ _ _ _ P₃ e q => ?_)
        cases e
        cases b
        · refine wpAny_allTrue_Or_cons (q.run P₃ fun b _ _ _ _ P₄ e q => ?_)
          cases e
          cases b
          · exact wpAny_allTrue_Or_nil ⟨_, _, P₄, rfl, q⟩
          · exact ⟨_, _, P₄, rfl, q⟩
        · exact ⟨_, _, P₃, rfl, q⟩
      · exact ⟨_, _, P₂, rfl, q⟩
    · exact ⟨_, _, P₁, rfl, q⟩))
inductive Nml (X : Cx) : List Expr → List Str → Prop
  | nil : Nml X [] []
  | cons {x : Str} {p : Pos} {es : List Expr} {xs : List Str} (k : X.env.kindOf x = some .local) (r : Nml X es xs) : Nml X (.Name x p :: es) (x :: xs)
noncomputable def puts : List (Str × V) → List Str → List V → List (Str × V)
  | loc, x :: xs, d :: ds => puts (put loc x d) xs ds
  | loc, _, _ => loc
theorem Nml.each {es : List Expr} {xs : List Str} (h : Nml X es xs) : (assignEach es X.env).length = xs.length ∧ (assignEach es X.env).findIdx? (·.1) = none := by
  induction h with
  | nil => exact ⟨rfl, rfl⟩
  | @cons x p es xs k r ih =>
    have e : assignEach (.Name x p :: es) X.env = (false, assign (.Name x p) X.env) :: assignEach es X.env := rfl
    rw [e]
    exact ⟨by rw [List.length_cons, List.length_cons, ih.1], by rw [List.findIdx?_cons, ih.2]; rfl⟩
theorem Nml.sto {es : List Expr} {xs : List Str} (ok : Ok X n) (h : Nml X es xs) {Q : FV → S → Prop} {σ₀ : S} {s₀ : Shared} : ∀ {σ : S} {s : Shared} {vs : List Value} {ds : List V}, Post X σ₀ s₀ σ s → VMs σ.mu s.heap vs ds → ds.length = xs.length → Q .next { σ with loc := puts σ.loc xs ds } →
    wpAny (model X.prog X.w) X.A (assignInOrder ((assignEach es X.env).map (·.2)) vs) (fun _ => Qw X σ₀ s₀ FM Q .next) (Ew X σ₀ s₀ E) s := by
  induction h with
  | nil =>
    intro σ s vs ds P vm hl q
    cases vm with
    | nil => exact wpAny_pure ⟨.next, _, P, trivial, q⟩
    | cons _ _ => cases hl
  | @cons x p es xs k r ih =>
    intro σ s vs ds P vm hl q
    cases vm with
    | nil => cases hl
    | @cons v vs d ds a ar =>
      show wpAny _ _ (do holding vs (assign (.Name x p) X.env v); assignInOrder _ vs) _ _ _
      refine wpAny_bind (wpAny_holding (wpAny_assign_Name (wpAny_mono (sto_local ok k v s P.st a) (fun _ s₂ z => ?_) fun _ _ z => z.elim)))
      obtain ⟨_, _, P₂, _, rfl⟩ := z
      exact ih (P.trans P₂) (ar.mono P₂.ext) (Nat.succ.inj hl) q
inductive TupQ (d : V) (k : Nat) (Q : List V → Prop) : Prop
  | mk (ds : List V) (e : d = .tup ds) (h : ds.length = k) (q : Q ds)
theorem WX_AssignN {es : List Expr} {xs : List Str} {k : Nat} {tp pos : Pos} {e : Expr} {Q : FV → S → Prop} (ok : Ok X n) (hc : X.ctx = none) (hN : Nml X es xs) (h : WE X e σ (fun d σ₁ => TupQ d xs.length fun ds => Q .next { σ₁ with loc := puts σ₁.loc xs ds }) E)
    (hs : ∀ env, swapsWithSole [.Tuple es k tp] e pos.line env = pure false) (hw : ∀ env, swappedStores [.Tuple es k tp] e env = pure none) : WX X (.Assign [.Tuple es k tp] e pos) σ Q E := fun _ st =>
  PyProof.Rows.Assign_Tuple (h.run (Post.refl st) fun v s₁ d σ₁ _ P₁ vm h₁ => by
    obtain ⟨ds, rfl, hl, q⟩ := h₁
    obtain ⟨T, o, vs, n, rfl, g, c, dd, _, vms⟩ := vm.tupI
    have hA : X.A.handled = none := by rw [ok.handled, hc]; rfl
    refine wpAny_assign_Tuple hA ⟨o, g, c, n, dd⟩ (by rw [hN.each.1, List.size_toArray, vms.length, hl]) hN.each.2 fun h₃ hx₃ => ?_
    have P₂ : Post X σ₁ s₁ σ₁ { s₁ with heap := h₃ } := Post.keeps P₁.st h₃ s₁.toks rfl fun b o g => hx₃ b o (Nat.ne_of_lt (Heap.lt_size g)) g
    rw [List.toList_toArray]
    exact hN.sto ok (P₁.trans P₂) (vms.mono P₂.ext) hl q) (hs _) (hw _)
mutual
inductive FzD (hp hp' : Addr → Option HO) : V → V → Prop
  | refl (d : V) : FzD hp hp' d d
  | tup {ds ds' : List V} (r : FzDs hp hp' ds ds') : FzD hp hp' (.tup ds) (.tup ds')
  | lst {ds ds' : List V} (r : FzDs hp hp' ds ds') : FzD hp hp' (.lst ds) (.lst ds')
  | own {a : Addr} {ds ds' : List V} (h : hp a = some (.lst ds)) (h' : hp' a = none) (r : FzDs hp hp' ds ds') : FzD hp hp' (.ref a) (.lst ds')
inductive FzDs (hp hp' : Addr → Option HO) : List V → List V → Prop
  | nil : FzDs hp hp' [] []
  | cons {d d' : V} {ds ds' : List V} (a : FzD hp hp' d d') (r : FzDs hp hp' ds ds') : FzDs hp hp' (d :: ds) (d' :: ds')
end
theorem FzD.vm {h : Heap} {hp' : Addr → Option HO} (st : St X σ h) (hs : ∀ a o, hp' a = some o → σ.hp a = some o) {d d' : V} (z : FzD σ.hp hp' d d') : ∀ {v : Value}, VM σ.mu h v d → VM (S.mu ⟨σ.loc, hp'⟩) h v d' := by
  have nm : ∀ a, ¬ σ.mu a → ¬ S.mu ⟨σ.loc, hp'⟩ a := fun a n m => by
    cases q : hp' a with
    | none => exact m q
    | some o => exact n (by show σ.hp a ≠ none; rw [hs a o q]; exact Option.some_ne_none _)
  intro v x
  exact FzD.rec (motive_1 := fun d d' _ => ∀ v, VM σ.mu h v d → VM (S.mu ⟨σ.loc, hp'⟩) h v d') (motive_2 := fun ds ds' _ => ∀ vs, VMs σ.mu h vs ds → VMs (S.mu ⟨σ.loc, hp'⟩) h vs ds')
    (fun d v x => vm_drop x hs)
    (fun _ ih v x => by
      obtain ⟨a, o, vs, n, rfl, g, c, e, nmu, vm⟩ := x.tupI
      exact .tup g c e (nm _ nmu) (ih _ vm))
    (fun _ ih v x => by
      obtain ⟨a, o, vs, n, rfl, g, c, e, nmu, vm⟩ := x.lstI
      exact .lst g c e (nm _ nmu) (ih _ vm))
    (fun h1 h2 _ ih v x => by
      obtain rfl := x.refI
      obtain ⟨⟨vs, k, g, vms⟩, _⟩ := st.own _ _ h1
      exact .lst g rfl rfl (fun m => m h2) (ih _ vms))
    (fun vs x => by cases x; exact .nil)
    (fun _ _ ih1 ih2 vs x => by cases x with | cons a r => exact .cons (ih1 _ a) (ih2 _ r)) z v x
theorem Call.fzD {f : Value} {ds : List V} {Q : V → S → Prop} (h : Call X f ds σ (fun d σ' => ∃ hp' d', (∀ a o, hp' a = some o → σ'.hp a = some o) ∧ FzD σ'.hp hp' d d' ∧ Q d' ⟨σ'.loc, hp'⟩) E) : Call X f ds σ Q E := fun vs s st vm =>
  wpAny_mono (h vs s st vm) (fun v s' q => by
    obtain ⟨d, σ', P, r, hp', d', hs, z, q⟩ := q
    exact ⟨d', _, post_drop P hs (fun _ _ e => e), z.vm P.st hs r, q⟩) fun _ _ q => q
theorem FzDs.refl {hp hp' : Addr → Option HO} : ∀ ds : List V, FzDs hp hp' ds ds
  | [] => .nil
  | d :: ds => .cons (.refl d) (FzDs.refl ds)
inductive EnA : V → Nat → (Nat → V) → Prop
  | str (l : List Nat) : EnA (.str l) l.length (fun i => .str [l.getD i 0])
  | lst (ds : List V) : EnA (.lst ds) ds.length (fun i => ds.getD i .none)
theorem wit_enum {e : Expr} {np pos : Pos} {Q : Nat → (Nat → V) → (Nat → V) → S → Prop} (ok : Ok X n) (k : KB X "enumerate" (.type "enumerate")) (hplain : ∀ env, (backTo pos (starEach [e] env)).any (·.1) = false)
    (h : W X (spliced (backTo pos (starEach [e] X.env))) VMs σ (fun ds σ₁ => ∃ a N d, ds = [a] ∧ EnA a N d ∧ Q N (fun i => .int i) d σ₁) E) : WItT X (.Call (.Name "enumerate" np) [e] [] pos) σ Q E := fun s st => by
  refine wpAny_Call_NameR ((W_kb (Q := fun f σ' => f = .lit (.type "enumerate") ∧ σ' = σ) ok k (by decide) ⟨rfl, rfl⟩ (by decide)).run (Post.refl st) fun v s₁ f σ₁ _ P₁ vm h₁ => ?_)
  obtain ⟨rfl, rfl⟩ := h₁
  cases vm.litI
  refine call_raw keeps_type (hplain _) (h.run P₁ fun vs s₂ ds σ₂ p₂ P₂ vms h₂ => ⟨P₂.st.inK ok, ?_⟩)
  obtain ⟨a, N, d, rfl, ha, q⟩ := h₂
  obtain ⟨v, rfl, vv⟩ := vms.one
  have src : ∃ (fp : List Addr) (PP : Nat → Value → Prop) (SS : Nat → Heap → Prop), (∀ A : Around, A.handled = none → Draws X.prog X.w A s₂.heap.objs.size fp N PP SS) ∧ s₂.heap.objs.size ∈ fp ∧ (∀ b ∈ fp, b ≠ s₂.heap.objs.size → ¬ σ₂.mu b ∧ ∃ o, s₂.heap.get? b = some o ∧ isSeq o.data) ∧
      (∀ i h, SS i h → ∃ o vs, h.get? s₂.heap.objs.size = some o ∧ o.data = .fields vs) ∧ (∀ i v mu' h', i < N → PP i v → SeqX σ₂.mu s₂.heap mu' h' → VM mu' h' v (d i)) ∧
      ∀ (Q : Value → Shared → Prop) (E : Value → Shared → Prop), (∀ h', IsEnum h' (s₂.heap.objs.size + 1) s₂.heap.objs.size 0 .none → SS 0 h' → (∀ b o, s₂.heap.get? b = some o → h'.get? b = some o) → Q (.ref (s₂.heap.objs.size + 1)) { s₂ with heap := h' }) → wpAny (model X.prog X.w) X.A (call (.type "enumerate") [v]) Q E s₂ := by
    cases ha with
    | str l =>
      obtain ⟨t, rfl⟩ := vv.strI
      refine ⟨[s₂.heap.objs.size], SignAt ⟨l.toArray⟩, fun i h => h.IsStrIter s₂.heap.objs.size (strIterType ⟨l.toArray⟩) ⟨l.toArray⟩ t i, fun A hA => ?_, .head _, fun b hb nb => absurd (List.mem_singleton.mp hb) nb, fun i h ⟨o, g, c, dd⟩ => ⟨o, _, g, dd⟩, fun i v mu' h' hi hv _ => ?_, fun Q E hq => call_enumerate_str fun h' he hi hz hk => hq h' he hi hk⟩
      · rw [show l.length = (⟨l.toArray⟩ : Str).cps.size from by simp]
        exact draws_str hA _ _ _
      · obtain ⟨c, u, e, rfl⟩ := hv
        have e' : l[i]? = some c := by simpa using e
        refine .strE ?_
        rw [List.getD_eq_getElem?_getD, e']; rfl
    | lst ds =>
      obtain ⟨a, o, vs, m, rfl, g, c, dd, nm, vms⟩ := vv.lstI
      have ne : a ≠ s₂.heap.objs.size := Nat.ne_of_lt (Heap.lt_size g)
      have hsz : vs.toArray.size = ds.length := by rw [List.size_toArray, vms.length]
      refine ⟨[s₂.heap.objs.size, a], fun i v => vs.toArray[i]? = some v, fun i h => h.IsListIter s₂.heap.objs.size a i ∧ h.IsList a vs.toArray, fun A hA => ?_, .head _, fun b hb nb => ?_, fun i h ⟨⟨o, g, c, dd⟩, _⟩ => ⟨o, _, g, dd⟩, fun i v mu' h' hi e x => ?_, fun Q E hq => call_enumerate_list ⟨o, g, c, m, dd⟩ fun h' he hi hz hk => hq h' he ⟨hi, ⟨o, hk _ _ g, c, m, dd⟩⟩ hk⟩
      · rw [← hsz]; exact Draws.list hA _ _ ne _
      · rcases List.mem_cons.mp hb with rfl | hb
        · exact absurd rfl nb
        · rw [List.mem_singleton.mp hb]; exact ⟨nm, o, g, by rw [dd]; trivial⟩
      · have e' : vs[i]? = some v := by simpa using e
        obtain ⟨dv, e2, vm'⟩ := vms.get' e'
        show VM mu' h' v (ds.getD i .none)
        rw [List.getD_eq_getElem?_getD, e2]; exact vm'.monoS x
  obtain ⟨fp, PP, SS, hD, hit, hfp, hrec, hv, hcall⟩ := src
  refine hcall _ _ fun h' he hi hk => ?_
  refine wpAny_pyIter_enum he ?_
  have P₃ : Post X σ₂ s₂ σ₂ { s₂ with heap := h' } := Post.keeps P₂.st h' s₂.toks rfl hk
  have nf := new_facts P₂.st
  have big : s₂.heap.get? (s₂.heap.objs.size + 1) = none := Heap.get?_none_of_le (Nat.le_succ _)
  have nf2 : X.base.get? (s₂.heap.objs.size + 1) = none ∧ ¬ σ₂.mu (s₂.heap.objs.size + 1) ∧ s₂.heap.objs.size + 1 ∉ X.prot := by
    refine ⟨?_, fun m => ?_, fun hp => ?_⟩
    · cases q : X.base.get? (s₂.heap.objs.size + 1) with
      | none => rfl
      | some o => have := P₂.st.base _ o q; rw [big] at this; cases this
    · cases q : σ₂.hp (s₂.heap.objs.size + 1) with
      | none => exact m q
      | some o => obtain ⟨ob, g⟩ := (P₂.st.own _ o q).1.there; rw [big] at g; cases g
    · obtain ⟨_, o, ws, g, _⟩ := P₂.st.prot _ hp
      rw [big] at g; cases g
  have hef : s₂.heap.objs.size + 1 ∉ fp := fun hm => by
    obtain ⟨_, o, g, _⟩ := hfp _ hm (Nat.succ_ne_self _)
    rw [big] at g; cases g
  refine ⟨_, N, _, _, σ₂, rfl, P₂.trans P₃, ?_, q⟩
  refine ⟨(s₂.heap.objs.size + 1) :: fp, [s₂.heap.objs.size + 1, s₂.heap.objs.size], fun i vals => ∃ t x, PP i x ∧ vals = #[.int i t, x],
    fun i h => (∃ old, IsEnum h (s₂.heap.objs.size + 1) s₂.heap.objs.size i old) ∧ SS i h,
    fun i T h => (∃ x, IsEnumOut h (s₂.heap.objs.size + 1) s₂.heap.objs.size ((i : Int) + 1) x T) ∧ SS (i + 1) h ∧ T ≠ s₂.heap.objs.size + 1 ∧ T ≠ s₂.heap.objs.size, fun A' hA => ?_, ⟨⟨_, he⟩, hi⟩, fun i h₁ ⟨⟨old, ho⟩, hs⟩ b hb => ?_, fun i T h₁ ⟨⟨x, ho⟩, hs, _⟩ b hb => ?_, fun b hb => ?_, fun b hb nb => ?_, fun i vals mu' h₁ hi' hv' x => ?_⟩
  · exact (WalksT.enumerateD (hD A'.in1 hA) (s₂.heap.objs.size + 1) (Nat.succ_ne_self _) hef hit).toU
  · rcases List.mem_cons.mp hb with rfl | hb
    · exact ⟨_, _, ho, rfl⟩
    · rw [List.mem_singleton.mp hb]; exact hrec _ _ hs
  · rcases List.mem_cons.mp hb with rfl | hb
    · exact ⟨_, _, ho, rfl⟩
    · rw [List.mem_singleton.mp hb]; exact hrec _ _ hs
  · rcases List.mem_cons.mp hb with rfl | hb
    · exact nf2
    · rw [List.mem_singleton.mp hb]; exact nf
  · rcases List.mem_cons.mp hb with rfl | hb
    · exact absurd (.head _) nb
    · obtain ⟨nm, o, g, d⟩ := hfp b hb (fun e => nb (by rw [e]; exact .tail _ (.head _)))
      exact ⟨nm, o, hk _ _ g, d⟩
  · obtain ⟨t, y, hy, rfl⟩ := hv'
    exact ⟨_, _, rfl, .int _ _, hv i y mu' h₁ hi' hy fun a o g nm q => x a o (hk a o g) nm q⟩
end
end Mine
namespace Mine
noncomputable def rs : List Nat → List (List Nat) × Bool
  | [] => ([], false)
  | [c] => if c = 92 then ([], true) else ([[c]], false)
  | c :: d :: r => if c = 92 then (([92, d] :: (rs r).1), (rs r).2) else ([c] :: (rs (d :: r)).1, (rs (d :: r)).2)
theorem rs_bs : rs [92] = ([], true) := rfl
theorem rs_esc (d : Nat) (r : List Nat) : rs (92 :: d :: r) = ([92, d] :: (rs r).1, (rs r).2) := by rw [rs]; simp
theorem rs_plain {c : Nat} (r : List Nat) (h : c ≠ 92) : rs (c :: r) = ([c] :: (rs r).1, (rs r).2) := by
  cases r with
  | nil => simp [rs, h]
  | cons d r => rw [rs]; simp [h]
theorem rs_flat (l : List Nat) : (rs l).1.flatten ++ (if (rs l).2 then [92] else []) = l := by
  induction l using rs.induct with
  | case1 => rfl
  | case2 => rfl
  | case3 c h => simp [rs, h]
  | case4 d r ih => rw [rs_esc]; simpa using ih
  | case5 c d r h ih => rw [rs_plain _ h]; simpa using ih
end Mine
namespace Mine
noncomputable def Gd (s : List Nat) : Prop := (∃ c, c ≠ 92 ∧ s = [c]) ∨ ∃ d, s = [92, d]
theorem rs_good : ∀ (S : List (List Nat)), (∀ s ∈ S, Gd s) → rs S.flatten = (S, false)
  | [], _ => rfl
  | s :: S, h => by
    have ih := rs_good S fun z hz => h z (by simp [hz])
    rw [List.flatten_cons]
    rcases h s (by simp) with ⟨c, hc, rfl⟩ | ⟨d, rfl⟩
    · show rs (c :: S.flatten) = _
      rw [rs_plain _ hc, ih]
    · show rs (92 :: d :: S.flatten) = _
      rw [rs_esc, ih]
end Mine
namespace Mine
open PySem PySem.W PyProof.Rows
section
local macro_rules | `(tactic| o_head (kHook $k $a $e)) => `(tactic| exact False.elim (by assumption))
set_option maxHeartbeats 8000000 in
theorem frg : True := (fun (_ : False → (PySem.Challenge.rw_ij0062_02.row).Holds) => True.intro) (fun h => by k_head)
end
noncomputable def KV : Params → Frag := keep _ (by have h : Tag frg.heap_1 := .mk; delta frg.heap_1 at h; exact h) "a" atoms
section
local macro_rules | `(tactic| k_head) => `(tactic| o_head (kHook KV [2, 3, 15, 17, 18, 20, 21, 22, 25, 30, 31, 32, 34, 35, 37, 38, 39, 40, 41, 42, 52, 54, 55, 57, 58, 59, 61, 62, 64, 65, 66, 68, 69, 71, 72, 73, 75, 76, 78, 79, 80, 82, 83, 85, 86, 87, 89, 90, 92, 93, 94, 96, 97, 99, 100, 101, 102, 104, 105, 107, 108, 109, 111, 112, 114, 115, 116, 117, 119, 120, 122, 123, 124, 126, 127, 129, 130, 131, 132, 133, 134, 135, 138, 140, 141, 143, 144, 145, 147, 148, 150, 151, 152, 154, 155, 157, 158, 159, 161, 162, 164, 165, 166, 168, 169, 171, 172, 173, 175, 176, 178, 179, 180, 182, 183, 185, 186, 187, 189, 190, 192, 193] (fun _ => by kernel_rfl)))
set_option maxHeartbeats 8000000 in
open_top hd for PySem.Challenge.rw_ij0062_02
end
end Mine
namespace Mine
open PySem PySem.W PySem.Calls PySem.Spec PyProof.Rows Builtin Builtin.ObjectAttr
noncomputable abbrev KK (p : Params) : Frag := KV p
noncomputable abbrev CT : Addr := 133
noncomputable abbrev CP : Addr := 41
section
variable (p : Params)
theorem f_init : fnOk (KK p) 58 = true := by kernel_rfl
theorem f_next : fnOk (KK p) 65 = true := by kernel_rfl
theorem f_get : fnOk (KK p) 79 = true := by kernel_rfl
theorem f_seek : fnOk (KK p) 115 = true := by kernel_rfl
theorem f_perr : fnOk (KK p) 38 = true := by kernel_rfl
theorem g_err : nsIn (KK p) mainGlobals "error_constants" = some (some (.ref CP)) := by kernel_rfl
theorem g_perr : nsIn (KK p) mainGlobals "PatternError" = some (some (.ref CP)) := by kernel_rfl
theorem g_tok : nsIn (KK p) mainGlobals "Tokenizer" = some (some (.ref CT)) := by kernel_rfl
theorem b_len : nsIn (KK p) mainGlobals "len" = some none := by kernel_rfl
theorem b_sum : nsIn (KK p) mainGlobals "sum" = some none := by kernel_rfl
theorem b_range : nsIn (KK p) mainGlobals "range" = some none := by kernel_rfl
theorem b_enum : nsIn (KK p) mainGlobals "enumerate" = some none := by kernel_rfl
theorem b_isinst : nsIn (KK p) mainGlobals "isinstance" = some none := by kernel_rfl
theorem b_str : nsIn (KK p) mainGlobals "str" = some none := by kernel_rfl
theorem b_ierr : nsIn (KK p) mainGlobals "IndexError" = some none := by kernel_rfl
theorem b_super : nsIn (KK p) mainGlobals "super" = some none := by kernel_rfl
theorem km_next : KMeth (KK p) CT "_Tokenizer__next" 65 := .of rfl (by kernel_rfl) (by kernel_rfl) (by kernel_rfl) (by kernel_rfl)
theorem km_get : KMeth (KK p) CT "get" 79 := .of rfl (by kernel_rfl) (by kernel_rfl) (by kernel_rfl) (by kernel_rfl)
theorem km_seek : KMeth (KK p) CT "seek" 115 := .of rfl (by kernel_rfl) (by kernel_rfl) (by kernel_rfl) (by kernel_rfl)
theorem kg_index : KGet (KK p) CT "index" := .of rfl (by kernel_rfl) (by kernel_rfl) (by kernel_rfl)
theorem kg_next : KGet (KK p) CT "next" := .of rfl (by kernel_rfl) (by kernel_rfl) (by kernel_rfl)
theorem kg_string : KGet (KK p) CT "string" := .of rfl (by kernel_rfl) (by kernel_rfl) (by kernel_rfl)
theorem kg_dec : KGet (KK p) CT "decoded_string" := .of rfl (by kernel_rfl) (by kernel_rfl) (by kernel_rfl)
theorem kg_istext : KGet (KK p) CT "istext" := .of rfl (by kernel_rfl) (by kernel_rfl) (by kernel_rfl)
theorem ks_index : KSet (KK p) CT "index" := .of rfl (by kernel_rfl) (by kernel_rfl) (by kernel_rfl) (by kernel_rfl)
theorem ks_next : KSet (KK p) CT "next" := .of rfl (by kernel_rfl) (by kernel_rfl) (by kernel_rfl) (by kernel_rfl)
theorem ks_string : KSet (KK p) CT "string" := .of rfl (by kernel_rfl) (by kernel_rfl) (by kernel_rfl) (by kernel_rfl)
theorem ks_dec : KSet (KK p) CT "decoded_string" := .of rfl (by kernel_rfl) (by kernel_rfl) (by kernel_rfl) (by kernel_rfl)
theorem ks_istext : KSet (KK p) CT "istext" := .of rfl (by kernel_rfl) (by kernel_rfl) (by kernel_rfl) (by kernel_rfl)
theorem km_make : KMake (KK p) CT 58 := ⟨by kernel_rfl, by kernel_rfl, by kernel_rfl⟩
theorem km_exc : KMakeExc (KK p) CP 38 := ⟨by kernel_rfl, by kernel_rfl, by kernel_rfl, by kernel_rfl, by kernel_rfl⟩
theorem kx_exc : KExc (KK p) CP := .of rfl (by kernel_rfl) (by kernel_rfl) (by kernel_rfl)
theorem kc_exc : ∃ nm q N bs hdct sn sub ab col dd k0 k1 k2 k3 k5 newId, (KK p).lookup CP = some (excClassObj nm q CP N bs [.type "Exception", .type "BaseException", .type "object"] hdct sn sub ab col dd k0 k1 k2 k3 k5 newId) ∧ newId = "Exception.__new__" :=
  ⟨_, _, _, _, _, _, _, _, _, _, _, _, _, _, _, _, rfl, rfl⟩
theorem kxs_cls : ∃ cd, clsIn (KK p) CP = some cd ∧ cd.hasDict = true ∧ ∀ self, refuseLoop self "__setattr__" cd.mro = pure () :=
  ⟨_, rfl, rfl, fun self => by
    show refuseLoop self "__setattr__" [.ref CP, .type "Exception", .type "BaseException", .type "object"] = _
    rw [refuseLoop_ref]
    kernel_rfl⟩
theorem kxs_msg : KExcSet (KK p) CP "msg" := .of rfl (by kernel_rfl) (kxs_cls p) (by kernel_rfl) (by kernel_rfl)
theorem kxs_pattern : KExcSet (KK p) CP "pattern" := .of rfl (by kernel_rfl) (kxs_cls p) (by kernel_rfl) (by kernel_rfl)
theorem kxs_pos : KExcSet (KK p) CP "pos" := .of rfl (by kernel_rfl) (kxs_cls p) (by kernel_rfl) (by kernel_rfl)
theorem kxs_lineno : KExcSet (KK p) CP "lineno" := .of rfl (by kernel_rfl) (kxs_cls p) (by kernel_rfl) (by kernel_rfl)
theorem kxs_colno : KExcSet (KK p) CP "colno" := .of rfl (by kernel_rfl) (kxs_cls p) (by kernel_rfl) (by kernel_rfl)
theorem f_tell : fnOk (KK p) 108 = true := by kernel_rfl
theorem km_tell : KMeth (KK p) CT "tell" 108 := .of rfl (by kernel_rfl) (by kernel_rfl) (by kernel_rfl) (by kernel_rfl)
theorem f_match : fnOk (KK p) 72 = true := by kernel_rfl
theorem f_gun : fnOk (KK p) 93 = true := by kernel_rfl
theorem f_error : fnOk (KK p) 123 = true := by kernel_rfl
theorem km_match : KMeth (KK p) CT "match" 72 := .of rfl (by kernel_rfl) (by kernel_rfl) (by kernel_rfl) (by kernel_rfl)
theorem km_gun : KMeth (KK p) CT "getuntil" 93 := .of rfl (by kernel_rfl) (by kernel_rfl) (by kernel_rfl) (by kernel_rfl)
theorem km_error : KMeth (KK p) CT "error" 123 := .of rfl (by kernel_rfl) (by kernel_rfl) (by kernel_rfl) (by kernel_rfl)
theorem f_spelled : fnOk (KK p) 144 = true := by kernel_rfl
theorem f_nodes : fnOk (KK p) 151 = true := by kernel_rfl
theorem f_written : fnOk (KK p) 158 = true := by kernel_rfl
theorem f_bare : fnOk (KK p) 165 = true := by kernel_rfl
theorem f_read : fnOk (KK p) 172 = true := by kernel_rfl
theorem f_refused : fnOk (KK p) 179 = true := by kernel_rfl
theorem f_all : fnOk (KK p) 186 = true := by kernel_rfl
theorem g_spelled : nsIn (KK p) mainGlobals "_law_spelled" = some (some (.ref 144)) := by kernel_rfl
theorem g_nodes : nsIn (KK p) mainGlobals "_law_nodes" = some (some (.ref 151)) := by kernel_rfl
theorem g_written : nsIn (KK p) mainGlobals "_law_written" = some (some (.ref 158)) := by kernel_rfl
theorem g_bare : nsIn (KK p) mainGlobals "_law_bare" = some (some (.ref 165)) := by kernel_rfl
theorem g_read : nsIn (KK p) mainGlobals "_law_read" = some (some (.ref 172)) := by kernel_rfl
theorem g_refused : nsIn (KK p) mainGlobals "_law_refused" = some (some (.ref 179)) := by kernel_rfl
theorem g_all : nsIn (KK p) mainGlobals "_law_all" = some (some (.ref 186)) := by kernel_rfl
end
end Mine
namespace Mine
open PySem PySem.W PySem.Calls PySem.Spec PyProof.Rows
theorem s_nl : (Str.ofString "\n").cps.toList = [10] := by decide +kernel
theorem c_err {pp : Params} {X : Cx} {n : Nat} {σ : S} {E : Value → S → Prop} {m l : List Nat} {p : Nat} {Q : V → S → Prop} (ok : Ok X (n + 1)) (hK : X.K = KK pp) (hP : X.prog = PySem.Challenge.rw_ij0062_02.row.prog) (hm : m.length ≤ 1000) (hl : l.length ≤ 1000) (nn : 10 ∉ l) (hp : p ≤ 100000)
    (q : ∀ a d hp', σ.hp a = none → hp' a = some (.exc CP (some d)) → (∀ b o, σ.hp b = some o → hp' b = some o) → Q (.ref a) ⟨σ.loc, hp'⟩) : Call X (.ref CP) [.str m, .str l, .int p] σ Q E := by
  obtain ⟨nm, qn, N, bs, hdct, sn, sub, ab, col, dd, k0, k1, k2, k3, k5, newId, hC, rfl⟩ := kc_exc pp
  refine Call.exc' (names := ["self", "msg", "pattern", "pos"]) (loc0 := fun a => [("self", .ref a), ("msg", .str m), ("pattern", .str l), ("pos", .int p)]) PySem.F.excBase_Exception ok hK hC (km_exc _) (f_perr _) (by simp) (bind4 fun _ _ _ _ _ => by kernel_rfl) (by kernel_rfl) (by decide +kernel) rfl (fun _ => rfl) fun Y a okY hI hE ha => ?_
  have hKY : Y.K = KK pp := hI.K.trans hK
  obtain ⟨L, hE⟩ := hE
  have hCY : Y.K.lookup CP = some (excClassObj nm qn CP N bs [.type "Exception", .type "BaseException", .type "object"] hdct sn sub ab col dd k0 k1 k2 k3 k5 "Exception.__new__") := by rw [hKY]; exact hC
  generalize hcur : upd σ.hp a (.exc CP none) = hp₁
  have e1 : hp₁ a = some (.exc CP none) := by rw [← hcur]; exact upd_self
  have e3 : ∀ b o, σ.hp b = some o → hp₁ b = some o := fun b o e => by
    rw [← hcur, upd_ne (fun z => by rw [z, ha] at e; cases e)]; exact e
  clear hcur
  refine WAt.hide fun Q1 E1 hQ1 hE1 => ?_
  conv in execs (bodyAt _ _) _ => arg 1; whnf
  refine WAt_cons ?_
  ((try dsimp only); ((with_reducible refine WX_SetAttr (hs := ?hsz48) ?_); (case hsz48 => intro _; rfl)))
  ((try dsimp only); ((with_reducible refine W_local (d := ?dz49) (by assumption) ?hkz49 ?hlz49 ?qz49 ?hdz49); (case hkz49 => (have hh := In.scope ‹In _ _ _›; exact kindE hh (by kernel_rfl))); (case hlz49 => ((with_reducible refine lk_skip ?hne2z49 ?hrest2z49); (case hne2z49 => decide +kernel); (with_reducible exact lk_hit))); (case hdz49 => decide +kernel); (try dsimp only)))
  ((try dsimp only); ((with_reducible refine W_local (d := ?dz50) (by assumption) ?hkz50 ?hlz50 ?qz50 ?hdz50); (case hkz50 => (have hh := In.scope ‹In _ _ _›; exact kindE hh (by kernel_rfl))); (case hlz50 => ((with_reducible exact lk_hit))); (case hdz50 => decide +kernel); (try dsimp only)))
  refine sa_exc0 okY e1 (hKY ▸ kxs_msg _) fun d hd => ?_
  replace hd : hp₁ d = none := hd
  have had : a ≠ d := fun z => by rw [← z, e1] at hd; cases hd
  have ud : ∀ b o, σ.hp b = some o → b ≠ d := fun b o e z => by rw [← z, e3 b o e] at hd; cases hd
  have ua : ∀ b o, σ.hp b = some o → b ≠ a := fun b o e z => by rw [z, ha] at e; cases e
  generalize hcur : upd (upd hp₁ a (.exc CP (some d))) d (.dict [("msg", .str m)]) = hp₂
  have g1 : hp₂ a = some (.exc CP (some d)) := by rw [← hcur, upd_ne had, upd_self]
  have g2 : hp₂ d = some (.dict [("msg", .str m)]) := by rw [← hcur, upd_self]
  have g3 : ∀ b o, σ.hp b = some o → hp₂ b = some o := fun b o e => by rw [← hcur, upd_ne (ud b o e), upd_ne (ua b o e)]; exact e3 b o e
  clear hcur
  generalize hfs : ([("msg", .str m)] : List (Str × V)) = fs at g2
  have hfl : fs.length ≤ 1 := by rw [← hfs]; simp
  clear hfs
  dsimp only
  refine WAt_cons ?_
  ((try dsimp only); ((with_reducible refine WX_SetAttr (hs := ?hsz51) ?_); (case hsz51 => intro _; rfl)))
  ((try dsimp only); ((with_reducible refine W_local (d := ?dz52) (by assumption) ?hkz52 ?hlz52 ?qz52 ?hdz52); (case hkz52 => (have hh := In.scope ‹In _ _ _›; exact kindE hh (by kernel_rfl))); (case hlz52 => ((with_reducible refine lk_skip ?hne3z52 ?hrest3z52); (case hne3z52 => decide +kernel); (with_reducible refine lk_skip ?hne2z52 ?hrest2z52); (case hne2z52 => decide +kernel); (with_reducible exact lk_hit))); (case hdz52 => decide +kernel); (try dsimp only)))
  ((try dsimp only); ((with_reducible refine W_local (d := ?dz53) (by assumption) ?hkz53 ?hlz53 ?qz53 ?hdz53); (case hkz53 => (have hh := In.scope ‹In _ _ _›; exact kindE hh (by kernel_rfl))); (case hlz53 => ((with_reducible exact lk_hit))); (case hdz53 => decide +kernel); (try dsimp only)))
  have stp : ∀ (hp : Addr → Option HO) (o : HO), hp a = some (.exc CP (some d)) → (∀ b o, σ.hp b = some o → hp b = some o) → upd hp d o a = some (.exc CP (some d)) ∧ upd hp d o d = some o ∧ ∀ b o', σ.hp b = some o' → upd hp d o b = some o' := fun hp o h1 h3 =>
    ⟨by rw [upd_ne had]; exact h1, upd_self, fun b o' e => by rw [upd_ne (ud b o' e)]; exact h3 b o' e⟩
  refine sa_exc1 okY g1 g2 (hKY ▸ kxs_pattern _) (by omega) ?_
  obtain ⟨h1, h2, h3⟩ := stp _ (.dict (updF fs "pattern" (.str l))) g1 g3
  have hl2 := updF_length fs "pattern" (.str l)
  generalize updF fs "pattern" (.str l) = fs2 at h1 h2 h3 hl2 ⊢
  generalize upd hp₂ d (.dict fs2) = hp₃ at h1 h2 h3 ⊢
  clear g1 g2 g3
  dsimp only
  refine WAt_cons ?_
  ((try dsimp only); ((with_reducible refine WX_SetAttr (hs := ?hsz54) ?_); (case hsz54 => intro _; rfl)))
  ((try dsimp only); ((with_reducible refine W_local (d := ?dz55) (by assumption) ?hkz55 ?hlz55 ?qz55 ?hdz55); (case hkz55 => (have hh := In.scope ‹In _ _ _›; exact kindE hh (by kernel_rfl))); (case hlz55 => ((with_reducible refine lk_skip ?hne4z55 ?hrest4z55); (case hne4z55 => decide +kernel); (with_reducible refine lk_skip ?hne3z55 ?hrest3z55); (case hne3z55 => decide +kernel); (with_reducible refine lk_skip ?hne2z55 ?hrest2z55); (case hne2z55 => decide +kernel); (with_reducible exact lk_hit))); (case hdz55 => decide +kernel); (try dsimp only)))
  ((try dsimp only); ((with_reducible refine W_local (d := ?dz56) (by assumption) ?hkz56 ?hlz56 ?qz56 ?hdz56); (case hkz56 => (have hh := In.scope ‹In _ _ _›; exact kindE hh (by kernel_rfl))); (case hlz56 => ((with_reducible exact lk_hit))); (case hdz56 => decide +kernel); (try dsimp only)))
  refine sa_exc1 okY h1 h2 (hKY ▸ kxs_pos _) (by omega) ?_
  obtain ⟨i1, i2, i3⟩ := stp _ (.dict (updF fs2 "pos" (.int p))) h1 h3
  have hl3 := updF_length fs2 "pos" (.int p)
  generalize updF fs2 "pos" (.int p) = fs3 at i1 i2 i3 hl3 ⊢
  generalize upd hp₃ d (.dict fs3) = hp₄ at i1 i2 i3 ⊢
  clear h1 h2 h3
  dsimp only
  refine WAt_cons ?_
  ((try dsimp only); (with_reducible refine WX_If ?_))
  ((try dsimp only); (with_reducible refine WT_And2 ?_))
  ((try dsimp only); ((with_reducible refine WT_Compare (hm := ?hmz59) ?_); (case hmz59 => with_unfolding_all rfl)))
  ((try dsimp only); ((with_reducible refine W_local (d := ?dz60) (by assumption) ?hkz60 ?hlz60 ?qz60 ?hdz60); (case hkz60 => (have hh := In.scope ‹In _ _ _›; exact kindE hh (by kernel_rfl))); (case hlz60 => ((with_reducible refine lk_skip ?hne3z60 ?hrest3z60); (case hne3z60 => decide +kernel); (with_reducible refine lk_skip ?hne2z60 ?hrest2z60); (case hne2z60 => decide +kernel); (with_reducible exact lk_hit))); (case hdz60 => decide +kernel); (try dsimp only)))
  ((try dsimp only); ((with_reducible refine W_none ?_); (try dsimp only)))
  refine o_notnone trivial (t_bool ?_)
  rw [if_pos (by rfl)]
  ((try dsimp only); ((with_reducible refine WT_Compare (hm := ?hmz62) ?_); (case hmz62 => with_unfolding_all rfl)))
  ((try dsimp only); ((with_reducible refine W_local (d := ?dz63) (by assumption) ?hkz63 ?hlz63 ?qz63 ?hdz63); (case hkz63 => (have hh := In.scope ‹In _ _ _›; exact kindE hh (by kernel_rfl))); (case hlz63 => ((with_reducible refine lk_skip ?hne4z63 ?hrest4z63); (case hne4z63 => decide +kernel); (with_reducible refine lk_skip ?hne3z63 ?hrest3z63); (case hne3z63 => decide +kernel); (with_reducible refine lk_skip ?hne2z63 ?hrest2z63); (case hne2z63 => decide +kernel); (with_reducible exact lk_hit))); (case hdz63 => decide +kernel); (try dsimp only)))
  ((try dsimp only); ((with_reducible refine W_none ?_); (try dsimp only)))
  refine o_notnone trivial (t_bool ?_)
  rw [if_pos (by rfl)]
  ((try dsimp only); (with_reducible refine WXs_cons ?_))
  ((try dsimp only); (with_reducible refine WX_Assign (hs := ?hsz66) (by assumption) ?hkz66 ?_); (case hsz66 => intro _; rfl); (case hkz66 => (have hh := In.scope ‹In _ _ _›; exact kindE hh (by kernel_rfl))))
  ((try dsimp only); (with_reducible refine W_BinOp ?_))
  refine W_str rfl ?_
  refine W_Tuple ?_
  refine WA_cons ?_
  ((try dsimp only); ((with_reducible refine W_local (d := ?dz68) (by assumption) ?hkz68 ?hlz68 ?qz68 ?hdz68); (case hkz68 => (have hh := In.scope ‹In _ _ _›; exact kindE hh (by kernel_rfl))); (case hlz68 => ((with_reducible refine lk_skip ?hne2z68 ?hrest2z68); (case hne2z68 => decide +kernel); (with_reducible exact lk_hit))); (case hdz68 => decide +kernel); (try dsimp only)))
  refine WA_cons ?_
  ((try dsimp only); ((with_reducible refine W_local (d := ?dz69) (by assumption) ?hkz69 ?hlz69 ?qz69 ?hdz69); (case hkz69 => (have hh := In.scope ‹In _ _ _›; exact kindE hh (by kernel_rfl))); (case hlz69 => ((with_reducible refine lk_skip ?hne4z69 ?hrest4z69); (case hne4z69 => decide +kernel); (with_reducible refine lk_skip ?hne3z69 ?hrest3z69); (case hne3z69 => decide +kernel); (with_reducible refine lk_skip ?hne2z69 ?hrest2z69); (case hne2z69 => decide +kernel); (with_reducible exact lk_hit))); (case hdz69 => decide +kernel); (try dsimp only)))
  refine WA_nil ?_
  refine ⟨by simp, ?_⟩
  refine pct_posA rfl (by omega) (by omega) (by omega) fun y => ?_
  ((try dsimp only); (with_reducible refine WXs_cons ?_))
  ((try dsimp only); (with_reducible refine WX_If ?_))
  refine WT_value (he := by intro _ _; rfl) ?_
  refine W_Call (hplain := by intro _; rfl) okY ?_
  refine W_bi (v := .builtin "isinstance") okY hKY (by (have hh := In.scope ‹In _ _ _›; exact kindE hh (by kernel_rfl))) (b_isinst _) (by kernel_rfl) (by decide +kernel) (by decide +kernel) ?_
  refine ⟨_, rfl, keeps_builtin, ?_⟩
  refine WA_cons ?_
  ((try dsimp only); ((with_reducible refine W_local (d := ?dz73) (by assumption) ?hkz73 ?hlz73 ?qz73 ?hdz73); (case hkz73 => (have hh := In.scope ‹In _ _ _›; exact kindE hh (by kernel_rfl))); (case hlz73 => ((with_reducible refine lkp_skip ?hne4z73 ?hrest4z73); (case hne4z73 => decide +kernel); (with_reducible refine lk_skip ?hne3z73 ?hrest3z73); (case hne3z73 => decide +kernel); (with_reducible refine lk_skip ?hne2z73 ?hrest2z73); (case hne2z73 => decide +kernel); (with_reducible exact lk_hit))); (case hdz73 => decide +kernel); (try dsimp only)))
  refine WA_cons ?_
  refine W_bi (v := .type "str") okY hKY (by (have hh := In.scope ‹In _ _ _›; exact kindE hh (by kernel_rfl))) (b_str _) (by kernel_rfl) (by decide +kernel) (by decide +kernel) ?_
  refine WA_nil ?_
  refine c_isstr (t_bool ?_)
  rw [if_pos rfl]
  ((try dsimp only); (with_reducible refine WXs_cons ?_))
  ((try dsimp only); (with_reducible refine WX_Assign (hs := ?hsz76) (by assumption) ?hkz76 ?_); (case hsz76 => intro _; rfl); (case hkz76 => (have hh := In.scope ‹In _ _ _›; exact kindE hh (by kernel_rfl))))
  refine W_str s_nl ?_
  ((try dsimp only); ((with_reducible refine WXs_nil ?_); (try dsimp only)))
  ((try dsimp only); (with_reducible refine WXs_cons ?_))
  ((try dsimp only); ((with_reducible refine WX_SetAttr (hs := ?hsz79) ?_); (case hsz79 => intro _; rfl)))
  ((try dsimp only); (with_reducible refine W_BinOp ?_))
  refine W_Method (hbase := by intro _; rfl) (hfew := by intro _; rfl) (hline := by rfl) (hplain := by intro _; rfl) okY ?_
  ((try dsimp only); ((with_reducible refine W_local (d := ?dz81) (by assumption) ?hkz81 ?hlz81 ?qz81 ?hdz81); (case hkz81 => (have hh := In.scope ‹In _ _ _›; exact kindE hh (by kernel_rfl))); (case hlz81 => ((with_reducible refine lkp_skip ?hne5z81 ?hrest5z81); (case hne5z81 => decide +kernel); (with_reducible refine lkp_skip ?hne4z81 ?hrest4z81); (case hne4z81 => decide +kernel); (with_reducible refine lk_skip ?hne3z81 ?hrest3z81); (case hne3z81 => decide +kernel); (with_reducible refine lk_skip ?hne2z81 ?hrest2z81); (case hne2z81 => decide +kernel); (with_reducible exact lk_hit))); (case hdz81 => decide +kernel); (try dsimp only)))
  refine gm_str F.slot_str_count F.type_str_count ⟨keeps_builtin, ?_⟩
  refine WA_cons ?_
  ((try dsimp only); ((with_reducible refine W_local (d := ?dz82) (by assumption) ?hkz82 ?hlz82 ?qz82 ?hdz82); (case hkz82 => (have hh := In.scope ‹In _ _ _›; exact kindE hh (by kernel_rfl))); (case hlz82 => ((with_reducible exact lk_put_self))); (case hdz82 => decide +kernel); (try dsimp only)))
  refine WA_cons ?_
  ((try dsimp only); ((with_reducible refine W_int ?_); (try dsimp only)))
  refine WA_cons ?_
  ((try dsimp only); ((with_reducible refine W_local (d := ?dz84) (by assumption) ?hkz84 ?hlz84 ?qz84 ?hdz84); (case hkz84 => (have hh := In.scope ‹In _ _ _›; exact kindE hh (by kernel_rfl))); (case hlz84 => ((with_reducible refine lkp_skip ?hne6z84 ?hrest6z84); (case hne6z84 => decide +kernel); (with_reducible refine lkp_skip ?hne5z84 ?hrest5z84); (case hne5z84 => decide +kernel); (with_reducible refine lk_skip ?hne4z84 ?hrest4z84); (case hne4z84 => decide +kernel); (with_reducible refine lk_skip ?hne3z84 ?hrest3z84); (case hne3z84 => decide +kernel); (with_reducible refine lk_skip ?hne2z84 ?hrest2z84); (case hne2z84 => decide +kernel); (with_reducible exact lk_hit))); (case hdz84 => decide +kernel); (try dsimp only)))
  refine WA_nil ?_
  refine c_count4 (i := 0) fun c hc => ?_
  ((try dsimp only); ((with_reducible refine W_int ?_); (try dsimp only)))
  refine o_addi ?_
  ((try dsimp only); ((with_reducible refine W_local (d := ?dz86) (by assumption) ?hkz86 ?hlz86 ?qz86 ?hdz86); (case hkz86 => (have hh := In.scope ‹In _ _ _›; exact kindE hh (by kernel_rfl))); (case hlz86 => ((with_reducible refine lkp_skip ?hne3z86 ?hrest3z86); (case hne3z86 => decide +kernel); (with_reducible refine lkp_skip ?hne2z86 ?hrest2z86); (case hne2z86 => decide +kernel); (with_reducible exact lk_hit))); (case hdz86 => decide +kernel); (try dsimp only)))
  refine sa_exc1 okY i1 i2 (hKY ▸ kxs_lineno _) (by omega) ?_
  obtain ⟨j1, j2, j3⟩ := stp _ (.dict (updF fs3 "lineno" (.int (c + 1)))) i1 i3
  have hl4 := updF_length fs3 "lineno" (.int (c + 1))
  generalize hfs4 : updF fs3 "lineno" (.int (c + 1)) = fs4 at j1 j2 j3 hl4 ⊢
  generalize upd hp₄ d (.dict fs4) = hp₅ at j1 j2 j3 ⊢
  clear i1 i2 i3
  ((try dsimp only); (with_reducible refine WXs_cons ?_))
  ((try dsimp only); ((with_reducible refine WX_SetAttr (hs := ?hsz88) ?_); (case hsz88 => intro _; rfl)))
  ((try dsimp only); (with_reducible refine W_BinOp ?_))
  ((try dsimp only); ((with_reducible refine W_local (d := ?dz90) (by assumption) ?hkz90 ?hlz90 ?qz90 ?hdz90); (case hkz90 => (have hh := In.scope ‹In _ _ _›; exact kindE hh (by kernel_rfl))); (case hlz90 => ((with_reducible refine lkp_skip ?hne6z90 ?hrest6z90); (case hne6z90 => decide +kernel); (with_reducible refine lkp_skip ?hne5z90 ?hrest5z90); (case hne5z90 => decide +kernel); (with_reducible refine lk_skip ?hne4z90 ?hrest4z90); (case hne4z90 => decide +kernel); (with_reducible refine lk_skip ?hne3z90 ?hrest3z90); (case hne3z90 => decide +kernel); (with_reducible refine lk_skip ?hne2z90 ?hrest2z90); (case hne2z90 => decide +kernel); (with_reducible exact lk_hit))); (case hdz90 => decide +kernel); (try dsimp only)))
  refine W_Method (hbase := by intro _; rfl) (hfew := by intro _; rfl) (hline := by rfl) (hplain := by intro _; rfl) okY ?_
  ((try dsimp only); ((with_reducible refine W_local (d := ?dz91) (by assumption) ?hkz91 ?hlz91 ?qz91 ?hdz91); (case hkz91 => (have hh := In.scope ‹In _ _ _›; exact kindE hh (by kernel_rfl))); (case hlz91 => ((with_reducible refine lkp_skip ?hne5z91 ?hrest5z91); (case hne5z91 => decide +kernel); (with_reducible refine lkp_skip ?hne4z91 ?hrest4z91); (case hne4z91 => decide +kernel); (with_reducible refine lk_skip ?hne3z91 ?hrest3z91); (case hne3z91 => decide +kernel); (with_reducible refine lk_skip ?hne2z91 ?hrest2z91); (case hne2z91 => decide +kernel); (with_reducible exact lk_hit))); (case hdz91 => decide +kernel); (try dsimp only)))
  refine gm_str F.slot_str_rfind F.type_str_rfind ⟨keeps_builtin, ?_⟩
  refine WA_cons ?_
  ((try dsimp only); ((with_reducible refine W_local (d := ?dz92) (by assumption) ?hkz92 ?hlz92 ?qz92 ?hdz92); (case hkz92 => (have hh := In.scope ‹In _ _ _›; exact kindE hh (by kernel_rfl))); (case hlz92 => ((with_reducible exact lk_put_self))); (case hdz92 => decide +kernel); (try dsimp only)))
  refine WA_cons ?_
  ((try dsimp only); ((with_reducible refine W_int ?_); (try dsimp only)))
  refine WA_cons ?_
  ((try dsimp only); ((with_reducible refine W_local (d := ?dz94) (by assumption) ?hkz94 ?hlz94 ?qz94 ?hdz94); (case hkz94 => (have hh := In.scope ‹In _ _ _›; exact kindE hh (by kernel_rfl))); (case hlz94 => ((with_reducible refine lkp_skip ?hne6z94 ?hrest6z94); (case hne6z94 => decide +kernel); (with_reducible refine lkp_skip ?hne5z94 ?hrest5z94); (case hne5z94 => decide +kernel); (with_reducible refine lk_skip ?hne4z94 ?hrest4z94); (case hne4z94 => decide +kernel); (with_reducible refine lk_skip ?hne3z94 ?hrest3z94); (case hne3z94 => decide +kernel); (with_reducible refine lk_skip ?hne2z94 ?hrest2z94); (case hne2z94 => decide +kernel); (with_reducible exact lk_hit))); (case hdz94 => decide +kernel); (try dsimp only)))
  refine WA_nil ?_
  refine c_rfind4 (i := 0) (by decide) fun r r1 r2 => ?_
  refine o_subi ?_
  ((try dsimp only); ((with_reducible refine W_local (d := ?dz95) (by assumption) ?hkz95 ?hlz95 ?qz95 ?hdz95); (case hkz95 => (have hh := In.scope ‹In _ _ _›; exact kindE hh (by kernel_rfl))); (case hlz95 => ((with_reducible refine lkp_skip ?hne3z95 ?hrest3z95); (case hne3z95 => decide +kernel); (with_reducible refine lkp_skip ?hne2z95 ?hrest2z95); (case hne2z95 => decide +kernel); (with_reducible exact lk_hit))); (case hdz95 => decide +kernel); (try dsimp only)))
  refine sa_exc1 okY j1 j2 (hKY ▸ kxs_colno _) (by omega) ?_
  obtain ⟨k1', k2', k3'⟩ := stp _ (.dict (updF fs4 "colno" (.int (p - r)))) j1 j3
  generalize upd hp₅ d (.dict (updF fs4 "colno" (.int (p - r)))) = hp₆ at k1' k2' k3' ⊢
  clear j1 j2 j3
  ((try dsimp only); (with_reducible refine WXs_cons ?_))
  ((try dsimp only); (with_reducible refine WX_If ?_))
  ((try dsimp only); ((with_reducible refine WT_Compare (hm := ?hmz98) ?_); (case hmz98 => with_unfolding_all rfl)))
  ((try dsimp only); ((with_reducible refine W_local (d := ?dz99) (by assumption) ?hkz99 ?hlz99 ?qz99 ?hdz99); (case hkz99 => (have hh := In.scope ‹In _ _ _›; exact kindE hh (by kernel_rfl))); (case hlz99 => ((with_reducible exact lk_put_self))); (case hdz99 => decide +kernel); (try dsimp only)))
  ((try dsimp only); ((with_reducible refine W_local (d := ?dz100) (by assumption) ?hkz100 ?hlz100 ?qz100 ?hdz100); (case hkz100 => (have hh := In.scope ‹In _ _ _›; exact kindE hh (by kernel_rfl))); (case hlz100 => ((with_reducible refine lkp_skip ?hne5z100 ?hrest5z100); (case hne5z100 => decide +kernel); (with_reducible refine lkp_skip ?hne4z100 ?hrest4z100); (case hne4z100 => decide +kernel); (with_reducible refine lk_skip ?hne3z100 ?hrest3z100); (case hne3z100 => decide +kernel); (with_reducible refine lk_skip ?hne2z100 ?hrest2z100); (case hne2z100 => decide +kernel); (with_reducible exact lk_hit))); (case hdz100 => decide +kernel); (try dsimp only)))
  refine o_inno nn (t_bool ?_)
  have ksup : KSup Y 38 CP "self" :=
    { func := by rw [hE]; rfl
      fd := by rw [hKY]; exact ⟨_, _, _, _, _, rfl, rfl, rfl⟩
      code := by
        rw [hKY, hE, hI.prog, hP]
        exact ⟨37, _, _, _, _, _, _, by kernel_rfl, rfl, rfl, by kernel_rfl⟩
      top := by rw [hI.prog, hP]; kernel_rfl
      super := by (have hh := In.scope ‹In _ _ _›; exact kindE hh (by kernel_rfl))
      cls := by (have hh := In.scope ‹In _ _ _›; exact kindE hh (by kernel_rfl))
      cell := by
        rw [hKY, hE]
        exact ⟨25, _, _, _, by kernel_rfl, rfl⟩
      glob := by rw [hKY]; exact b_super _
      boot := by kernel_rfl
      sub := by rw [hKY]; kernel_rfl
      exc := by rw [hKY]; kernel_rfl
      opaq := by rw [hKY]; kernel_rfl
      selfLoc := by (have hh := In.scope ‹In _ _ _›; exact kindE hh (by kernel_rfl)) }
  rw [if_neg (by decide)]
  ((try dsimp only); ((with_reducible refine WXs_nil ?_); (try dsimp only)))
  ((try dsimp only); ((with_reducible refine WXs_nil ?_); (try dsimp only)))
  refine WAt_last (WAt_super (a := a) (dy := .str y) PySem.F.excBase_Exception okY hCY rfl ksup ?hs k1' ?hm (by (have hh := In.scope ‹In _ _ _›; exact kindE hh (by kernel_rfl))) (by decide +kernel) (by rfl) (fun _ => by rfl) ?_)
  case hs => ((with_reducible refine lkp_skip ?hne3z107 ?hrest3z107); (case hne3z107 => decide +kernel); (with_reducible refine lkp_skip ?hne2z107 ?hrest2z107); (case hne2z107 => decide +kernel); (with_reducible exact lk_hit))
  case hm => ((with_reducible refine lkp_skip ?hne2z108 ?hrest2z108); (case hne2z108 => decide +kernel); (with_reducible exact lk_put_self))
  exact hQ1 _ _ ⟨rfl, q a d _ ha k1' k3'⟩
end Mine
namespace Mine
open PySem PySem.W PySem.Calls PySem.Spec PyProof.Rows
noncomputable def tokFs (l : List Nat) (i : Nat) (d : V) : List (Str × V) := [("istext", .bool true), ("string", .str l), ("decoded_string", .str l), ("index", .int i), ("next", d)]
theorem tok_index (l : List Nat) (i : Nat) (d : V) : lk (tokFs l i d) "index" = some (.int i) := by kernel_rfl
theorem tok_next (l : List Nat) (i : Nat) (d : V) : lk (tokFs l i d) "next" = some d := by kernel_rfl
theorem tok_str (l : List Nat) (i : Nat) (d : V) : lk (tokFs l i d) "string" = some (.str l) := by kernel_rfl
theorem tok_dec (l : List Nat) (i : Nat) (d : V) : lk (tokFs l i d) "decoded_string" = some (.str l) := by kernel_rfl
theorem up_index (l : List Nat) (i j : Nat) (d : V) : updF (tokFs l i d) "index" (.int j) = tokFs l j d := by kernel_rfl
theorem up_next (l : List Nat) (i : Nat) (d e : V) : updF (tokFs l i d) "next" e = tokFs l i e := by kernel_rfl
theorem s_bs : (Str.ofString "\\").cps.toList = [92] := by decide +kernel
theorem match_ierr {X : Cx} : Match X (.type "IndexError") (.type "IndexError") true := match_builtin (by rw [isSubtype_type]; kernel_rfl) (by kernel_rfl) (by rw [isSubtype_type]; kernel_rfl)
structure Tk (hp : Addr → Option HO) (a dx : Addr) (l : List Nat) (i : Nat) (d : V) : Prop where
  inst : hp a = some (.inst CT dx)
  dict : hp dx = some (.dict (tokFs l i d))
  nn : 10 ∉ l
theorem c_next {pp : Params} {X : Cx} {n : Nat} {σ : S} {E : Value → S → Prop} {a dx : Addr} {l : List Nat} {i : Nat} {d : V} {Q : V → S → Prop} (ok : Ok X (n + 2)) (hK : X.K = KK pp) (hP : X.prog = PySem.Challenge.rw_ij0062_02.row.prog) (hc : X.ctx = none) (tk : Tk σ.hp a dx l i d) (hl : l.length ≤ 1000) (hi : i ≤ 1000)
    (q : match l[i]? with
      | none => Q .none { σ with hp := upd σ.hp dx (.dict (tokFs l i .none)) }
      | some c => if c = 92 then (match l[i + 1]? with
          | none => E (.ref CP) σ
          | some c2 => Q .none { σ with hp := upd σ.hp dx (.dict (tokFs l (i + 2) (.str [92, c2]))) })
        else Q .none { σ with hp := upd σ.hp dx (.dict (tokFs l (i + 1) (.str [c]))) }) : Call X (.ref 65) [.ref a] σ Q E := by
  refine Call.fn' (names := ["self"]) (loc0 := [("self", .ref a)]) (n := n + 1) ok hK (f_next _) (bind1 fun v _ => by kernel_rfl) (by kernel_rfl) (by decide +kernel) rfl rfl fun Y okY hI => ?_
  have hKY : Y.K = KK pp := hI.K.trans hK
  have hcY : Y.ctx = none := hI.ctx.trans hc
  obtain ⟨t1, t2, nn⟩ := tk
  have had : a ≠ dx := kd_ne t1 t2 rfl
  conv in bodyAt _ _ => whnf
  refine W.hide fun Q1 E1 hQ1 hE1 => ?_
  ((try dsimp only); (with_reducible refine WXs_cons ?_))
  ((try dsimp only); (with_reducible refine WX_Assign (hs := ?hsz144) (by assumption) ?hkz144 ?_); (case hsz144 => intro _; rfl); (case hkz144 => (have hh := In.scope ‹In _ _ _›; exact kindE hh (by kernel_rfl))))
  refine W_field (by assumption) ?_ (by decide +kernel) (by ((with_reducible exact lk_hit))) t1 t2 (hKY ▸ kg_index _) (tok_index _ _ _) (nl rfl) ?_
  · (have hh := In.scope ‹In _ _ _›; exact kindE hh (by kernel_rfl))
  dsimp only
  ((try dsimp only); (with_reducible refine WXs_cons ?_))
  refine WX_Try (n := n + 1) (c := .type "IndexError") okY hI.env (ht_bi okY hKY (by (have hh := In.scope ‹In _ _ _›; exact kindE hh (by kernel_rfl))) (b_ierr _) (by kernel_rfl) (by decide +kernel) (by decide +kernel)) ?_
  ((try dsimp only); (with_reducible refine WXs_cons ?_))
  ((try dsimp only); (with_reducible refine WX_Assign (hs := ?hsz150) (by assumption) ?hkz150 ?_); (case hsz150 => intro _; rfl); (case hkz150 => (have hh := In.scope ‹In _ _ _›; exact kindE hh (by kernel_rfl))))
  ((try dsimp only); (with_reducible refine W_Sub ?_))
  refine W_field (by assumption) ?_ (by decide +kernel) (by ((with_reducible refine lkp_skip ?hne2z152 ?hrest2z152); (case hne2z152 => decide +kernel); (with_reducible exact lk_hit))) t1 t2 (hKY ▸ kg_dec _) (tok_dec _ _ _) (nl rfl) ?_
  · (have hh := In.scope ‹In _ _ _›; exact kindE hh (by kernel_rfl))
  ((try dsimp only); ((with_reducible refine W_local (d := ?dz154) (by assumption) ?hkz154 ?hlz154 ?qz154 ?hdz154); (case hkz154 => (have hh := In.scope ‹In _ _ _›; exact kindE hh (by kernel_rfl))); (case hlz154 => ((with_reducible exact lk_put_self))); (case hdz154 => decide +kernel); (try dsimp only)))
  refine s_strItem (hs := by intro _ _ _ _; with_unfolding_all rfl) (ht := by intro _ _ _; with_unfolding_all rfl) okY hcY (by omega) (by omega) ?_
  cases hli : l[i]? with
  | none =>
    rw [hli] at q
    dsimp only at q ⊢
    refine ⟨true, match_ierr, ?_⟩
    rw [if_pos rfl]
    intro e okm
    ((try dsimp only); (with_reducible refine WXs_cons ?_))
    ((try dsimp only); ((with_reducible refine WX_SetAttr (hs := ?hsz156) ?_); (case hsz156 => intro _; rfl)))
    ((try dsimp only); ((with_reducible refine W_none ?_); (try dsimp only)))
    ((try dsimp only); ((with_reducible refine W_local (d := ?dz158) (by assumption) ?hkz158 ?hlz158 ?qz158 ?hdz158); (case hkz158 => (have hh := In.scope ‹In _ _ _›; exact kindE hh (by kernel_rfl))); (case hlz158 => ((with_reducible refine lkp_skip ?hne2z158 ?hrest2z158); (case hne2z158 => decide +kernel); (with_reducible exact lk_hit))); (case hdz158 => decide +kernel); (try dsimp only)))
    refine sa_inst okm t1 t2 (hKY ▸ ks_next _) (by show 5 ≤ 90; decide) ?_
    rw [up_next]
    ((try dsimp only); (with_reducible refine WXs_cons ?_))
    ((try dsimp only); ((with_reducible refine WX_Return0 ?_); (try dsimp only)))
    exact hQ1 _ _ q
  | some c =>
    rw [hli] at q
    dsimp only at q ⊢
    ((try dsimp only); ((with_reducible refine WXs_nil ?_); (try dsimp only)))
    ((try dsimp only); (with_reducible refine WXs_cons ?_))
    ((try dsimp only); (with_reducible refine WX_If ?_))
    ((try dsimp only); ((with_reducible refine WT_Compare (hm := ?hmz164) ?_); (case hmz164 => with_unfolding_all rfl)))
    ((try dsimp only); ((with_reducible refine W_local (d := ?dz165) (by assumption) ?hkz165 ?hlz165 ?qz165 ?hdz165); (case hkz165 => (have hh := In.scope ‹In _ _ _›; exact kindE hh (by kernel_rfl))); (case hlz165 => ((with_reducible exact lk_put_self))); (case hdz165 => decide +kernel); (try dsimp only)))
    refine W_str s_bs ?_
    refine o_eqs (t_bool ?_)
    by_cases h92 : c = 92
    · subst h92
      rw [if_pos rfl] at q
      rw [if_pos (show ([92] == [92]) = true from rfl)]
      ((try dsimp only); (with_reducible refine WXs_cons ?_))
      ((try dsimp only); (with_reducible refine WX_Aug (d := ?dz167) (by assumption) ?hkz167 ?hlz167 ?_); (case hkz167 => (have hh := In.scope ‹In _ _ _›; exact kindE hh (by kernel_rfl))); (case hlz167 => ((with_reducible refine lkp_skip ?hne2z167 ?hrest2z167); (case hne2z167 => decide +kernel); (with_reducible exact lk_put_self))))
      ((try dsimp only); ((with_reducible refine W_int ?_); (try dsimp only)))
      refine o_iaddi ?_
      ((try dsimp only); (with_reducible refine WXs_cons ?_))
      refine WX_Try (n := n + 1) (c := .type "IndexError") okY hI.env (ht_bi okY hKY (by (have hh := In.scope ‹In _ _ _›; exact kindE hh (by kernel_rfl))) (b_ierr _) (by kernel_rfl) (by decide +kernel) (by decide +kernel)) ?_
      ((try dsimp only); (with_reducible refine WXs_cons ?_))
      ((try dsimp only); (with_reducible refine WX_Aug (d := ?dz172) (by assumption) ?hkz172 ?hlz172 ?_); (case hkz172 => (have hh := In.scope ‹In _ _ _›; exact kindE hh (by kernel_rfl))); (case hlz172 => ((with_reducible refine lkp_skip ?hne2z172 ?hrest2z172); (case hne2z172 => decide +kernel); (with_reducible exact lk_put_self))))
      ((try dsimp only); (with_reducible refine W_Sub ?_))
      refine W_field (by assumption) ?_ (by decide +kernel) (by ((with_reducible refine lkp_skip ?hne4z174 ?hrest4z174); (case hne4z174 => decide +kernel); (with_reducible refine lkp_skip ?hne3z174 ?hrest3z174); (case hne3z174 => decide +kernel); (with_reducible refine lkp_skip ?hne2z174 ?hrest2z174); (case hne2z174 => decide +kernel); (with_reducible exact lk_hit))) t1 t2 (hKY ▸ kg_dec _) (tok_dec _ _ _) (nl rfl) ?_
      · (have hh := In.scope ‹In _ _ _›; exact kindE hh (by kernel_rfl))
      ((try dsimp only); ((with_reducible refine W_local (d := ?dz176) (by assumption) ?hkz176 ?hlz176 ?qz176 ?hdz176); (case hkz176 => (have hh := In.scope ‹In _ _ _›; exact kindE hh (by kernel_rfl))); (case hlz176 => ((with_reducible exact lk_put_self))); (case hdz176 => decide +kernel); (try dsimp only)))
      refine s_strItem (hs := by intro _ _ _ _; with_unfolding_all rfl) (ht := by intro _ _ _; with_unfolding_all rfl) (k := i + 1) okY hcY (by omega) (by omega) ?_
      cases hli2 : l[i + 1]? with
      | none =>
        rw [hli2] at q
        dsimp only at q ⊢
        refine ⟨true, match_ierr, ?_⟩
        rw [if_pos rfl]
        intro e okm
        ((try dsimp only); (with_reducible refine WXs_cons ?_))
        refine WX_RaiseFrom okm (fun p hp => by cases hp; rfl) ?_
        refine W_Call (hplain := by intro _; rfl) okm ?_
        refine W_gl okm hKY (by (have hh := In.scope ‹In _ _ _›; exact kindE hh (by kernel_rfl))) (g_err _) (by decide +kernel) ?_
        (try dsimp only)
        refine ⟨_, rfl, keeps_fn hKY (by kernel_rfl), ?_⟩
        refine WA_cons ?_
        refine W_str rfl ?_
        refine WA_cons ?_
        refine W_field (by assumption) ?_ (by decide +kernel) (by ((with_reducible refine lkp_skip ?hne4z179 ?hrest4z179); (case hne4z179 => decide +kernel); (with_reducible refine lkp_skip ?hne3z179 ?hrest3z179); (case hne3z179 => decide +kernel); (with_reducible refine lkp_skip ?hne2z179 ?hrest2z179); (case hne2z179 => decide +kernel); (with_reducible exact lk_hit))) t1 t2 (hKY ▸ kg_string _) (tok_str _ _ _) (nl rfl) ?_
        · (have hh := In.scope ‹In _ _ _›; exact kindE hh (by kernel_rfl))
        refine WA_cons ?_
        ((try dsimp only); (with_reducible refine W_BinOp ?_))
        refine W_Call (hplain := by intro _; rfl) okm ?_
        refine W_bi (v := .builtin "len") okm hKY (by (have hh := In.scope ‹In _ _ _›; exact kindE hh (by kernel_rfl))) (b_len _) (by kernel_rfl) (by decide +kernel) (by decide +kernel) ?_
        refine ⟨_, rfl, keeps_builtin, ?_⟩
        refine WA_cons ?_
        refine W_field (by assumption) ?_ (by decide +kernel) (by ((with_reducible refine lkp_skip ?hne4z183 ?hrest4z183); (case hne4z183 => decide +kernel); (with_reducible refine lkp_skip ?hne3z183 ?hrest3z183); (case hne3z183 => decide +kernel); (with_reducible refine lkp_skip ?hne2z183 ?hrest2z183); (case hne2z183 => decide +kernel); (with_reducible exact lk_hit))) t1 t2 (hKY ▸ kg_string _) (tok_str _ _ _) (nl rfl) ?_
        · (have hh := In.scope ‹In _ _ _›; exact kindE hh (by kernel_rfl))
        refine WA_nil ?_
        refine c_lens (by omega) ?_
        ((try dsimp only); ((with_reducible refine W_int ?_); (try dsimp only)))
        refine o_subi ?_
        refine WA_nil ?_
        have hlen : i < l.length := (List.getElem?_eq_some_iff.mp hli).1
        rw [show ((l.length : Int) - 1) = ((l.length - 1 : Nat) : Int) from by omega]
        refine c_err (n := n) okm hKY (hI.prog.trans hP) (by rw [show (Str.ofString "bad escape (end of pattern)").cps.toList.length = 27 from by decide +kernel]; omega) hl nn (by omega) fun ea de hp' h1 h2 h3 => ?_
        exact ⟨ea, CP, some de, σ.hp, rfl, h2, hKY ▸ kx_exc _, h3, h1, hE1 _ _ q⟩
      | some c2 =>
        rw [hli2] at q
        dsimp only at q ⊢
        refine o_iadds (by simp) ?_
        ((try dsimp only); ((with_reducible refine WXs_nil ?_); (try dsimp only)))
        ((try dsimp only); ((with_reducible refine WXs_nil ?_); (try dsimp only)))
        ((try dsimp only); (with_reducible refine WXs_cons ?_))
        ((try dsimp only); ((with_reducible refine WX_SetAttr (hs := ?hsz189) ?_); (case hsz189 => intro _; rfl)))
        ((try dsimp only); (with_reducible refine W_BinOp ?_))
        ((try dsimp only); ((with_reducible refine W_local (d := ?dz191) (by assumption) ?hkz191 ?hlz191 ?qz191 ?hdz191); (case hkz191 => (have hh := In.scope ‹In _ _ _›; exact kindE hh (by kernel_rfl))); (case hlz191 => ((with_reducible refine lkp_skip ?hne2z191 ?hrest2z191); (case hne2z191 => decide +kernel); (with_reducible exact lk_put_self))); (case hdz191 => decide +kernel); (try dsimp only)))
        ((try dsimp only); ((with_reducible refine W_int ?_); (try dsimp only)))
        refine o_addi ?_
        ((try dsimp only); ((with_reducible refine W_local (d := ?dz193) (by assumption) ?hkz193 ?hlz193 ?qz193 ?hdz193); (case hkz193 => (have hh := In.scope ‹In _ _ _›; exact kindE hh (by kernel_rfl))); (case hlz193 => ((with_reducible refine lkp_skip ?hne5z193 ?hrest5z193); (case hne5z193 => decide +kernel); (with_reducible refine lkp_skip ?hne4z193 ?hrest4z193); (case hne4z193 => decide +kernel); (with_reducible refine lkp_skip ?hne3z193 ?hrest3z193); (case hne3z193 => decide +kernel); (with_reducible refine lkp_skip ?hne2z193 ?hrest2z193); (case hne2z193 => decide +kernel); (with_reducible exact lk_hit))); (case hdz193 => decide +kernel); (try dsimp only)))
        refine sa_inst okY t1 t2 (hKY ▸ ks_index _) (by show 5 ≤ 90; decide) ?_
        rw [show ((i : Int) + 1 + 1) = ((i + 2 : Nat) : Int) from rfl, up_index]
        ((try dsimp only); (with_reducible refine WXs_cons ?_))
        ((try dsimp only); ((with_reducible refine WX_SetAttr (hs := ?hsz195) ?_); (case hsz195 => intro _; rfl)))
        ((try dsimp only); ((with_reducible refine W_local (d := ?dz196) (by assumption) ?hkz196 ?hlz196 ?qz196 ?hdz196); (case hkz196 => (have hh := In.scope ‹In _ _ _›; exact kindE hh (by kernel_rfl))); (case hlz196 => ((with_reducible exact lk_put_self))); (case hdz196 => decide +kernel); (try dsimp only)))
        ((try dsimp only); ((with_reducible refine W_local (d := ?dz197) (by assumption) ?hkz197 ?hlz197 ?qz197 ?hdz197); (case hkz197 => (have hh := In.scope ‹In _ _ _›; exact kindE hh (by kernel_rfl))); (case hlz197 => ((with_reducible refine lkp_skip ?hne5z197 ?hrest5z197); (case hne5z197 => decide +kernel); (with_reducible refine lkp_skip ?hne4z197 ?hrest4z197); (case hne4z197 => decide +kernel); (with_reducible refine lkp_skip ?hne3z197 ?hrest3z197); (case hne3z197 => decide +kernel); (with_reducible refine lkp_skip ?hne2z197 ?hrest2z197); (case hne2z197 => decide +kernel); (with_reducible exact lk_hit))); (case hdz197 => decide +kernel); (try dsimp only)))
        refine sa_inst okY (C := CT) (dx := dx) (fs := tokFs l (i + 2) d) ?_ upd_self (hKY ▸ ks_next _) (by show 5 ≤ 90; decide) ?_
        · show upd σ.hp dx _ a = _
          rw [upd_ne had]; exact t1
        rw [up_next, upd_upd]
        ((try dsimp only); ((with_reducible refine WXs_nil ?_); (try dsimp only)))
        exact hQ1 _ _ q
    · rw [if_neg h92] at q
      have : ([c] == [92]) = false := by simp [h92]
      rw [this, if_neg (by decide)]
      ((try dsimp only); ((with_reducible refine WXs_nil ?_); (try dsimp only)))
      ((try dsimp only); (with_reducible refine WXs_cons ?_))
      ((try dsimp only); ((with_reducible refine WX_SetAttr (hs := ?hsz201) ?_); (case hsz201 => intro _; rfl)))
      ((try dsimp only); (with_reducible refine W_BinOp ?_))
      ((try dsimp only); ((with_reducible refine W_local (d := ?dz203) (by assumption) ?hkz203 ?hlz203 ?qz203 ?hdz203); (case hkz203 => (have hh := In.scope ‹In _ _ _›; exact kindE hh (by kernel_rfl))); (case hlz203 => ((with_reducible refine lkp_skip ?hne2z203 ?hrest2z203); (case hne2z203 => decide +kernel); (with_reducible exact lk_put_self))); (case hdz203 => decide +kernel); (try dsimp only)))
      ((try dsimp only); ((with_reducible refine W_int ?_); (try dsimp only)))
      refine o_addi ?_
      ((try dsimp only); ((with_reducible refine W_local (d := ?dz205) (by assumption) ?hkz205 ?hlz205 ?qz205 ?hdz205); (case hkz205 => (have hh := In.scope ‹In _ _ _›; exact kindE hh (by kernel_rfl))); (case hlz205 => ((with_reducible refine lkp_skip ?hne3z205 ?hrest3z205); (case hne3z205 => decide +kernel); (with_reducible refine lkp_skip ?hne2z205 ?hrest2z205); (case hne2z205 => decide +kernel); (with_reducible exact lk_hit))); (case hdz205 => decide +kernel); (try dsimp only)))
      refine sa_inst okY t1 t2 (hKY ▸ ks_index _) (by show 5 ≤ 90; decide) ?_
      rw [show ((i : Int) + 1) = ((i + 1 : Nat) : Int) from rfl, up_index]
      ((try dsimp only); (with_reducible refine WXs_cons ?_))
      ((try dsimp only); ((with_reducible refine WX_SetAttr (hs := ?hsz207) ?_); (case hsz207 => intro _; rfl)))
      ((try dsimp only); ((with_reducible refine W_local (d := ?dz208) (by assumption) ?hkz208 ?hlz208 ?qz208 ?hdz208); (case hkz208 => (have hh := In.scope ‹In _ _ _›; exact kindE hh (by kernel_rfl))); (case hlz208 => ((with_reducible exact lk_put_self))); (case hdz208 => decide +kernel); (try dsimp only)))
      ((try dsimp only); ((with_reducible refine W_local (d := ?dz209) (by assumption) ?hkz209 ?hlz209 ?qz209 ?hdz209); (case hkz209 => (have hh := In.scope ‹In _ _ _›; exact kindE hh (by kernel_rfl))); (case hlz209 => ((with_reducible refine lkp_skip ?hne3z209 ?hrest3z209); (case hne3z209 => decide +kernel); (with_reducible refine lkp_skip ?hne2z209 ?hrest2z209); (case hne2z209 => decide +kernel); (with_reducible exact lk_hit))); (case hdz209 => decide +kernel); (try dsimp only)))
      refine sa_inst okY (C := CT) (dx := dx) (fs := tokFs l (i + 1) d) ?_ upd_self (hKY ▸ ks_next _) (by show 5 ≤ 90; decide) ?_
      · show upd σ.hp dx _ a = _
        rw [upd_ne had]; exact t1
      rw [up_next, upd_upd]
      ((try dsimp only); ((with_reducible refine WXs_nil ?_); (try dsimp only)))
      exact hQ1 _ _ q
end Mine
namespace Mine
open PySem PySem.W PySem.Calls PySem.Spec PyProof.Rows
noncomputable def sg (l : List Nat) (i : Nat) : Option (Nat × V) := match l[i]? with
  | none => some (i, .none)
  | some c => if c = 92 then (match l[i + 1]? with
      | none => none
      | some c2 => some (i + 2, .str [92, c2]))
    else some (i + 1, .str [c])
theorem c_next' {pp : Params} {X : Cx} {n : Nat} {σ : S} {E : Value → S → Prop} {a dx : Addr} {l : List Nat} {i : Nat} {d : V} {Q : V → S → Prop} (ok : Ok X (n + 2)) (hK : X.K = KK pp) (hP : X.prog = PySem.Challenge.rw_ij0062_02.row.prog) (hc : X.ctx = none) (tk : Tk σ.hp a dx l i d) (hl : l.length ≤ 1000) (hi : i ≤ 1000)
    (q : match sg l i with
      | none => E (.ref CP) σ
      | some (j, e) => Q .none { σ with hp := upd σ.hp dx (.dict (tokFs l j e)) }) : Call X (.ref 65) [.ref a] σ Q E := by
  refine c_next ok hK hP hc tk hl hi ?_
  unfold sg at q
  cases h : l[i]? with
  | none => rw [h] at q; exact q
  | some c =>
    rw [h] at q
    dsimp only at q ⊢
    split
    · rename_i hc
      rw [if_pos hc] at q
      cases h2 : l[i + 1]? with
      | none => rw [h2] at q; exact q
      | some c2 => rw [h2] at q; exact q
    · rename_i hc
      rw [if_neg hc] at q
      exact q
theorem Tk.upd {hp : Addr → Option HO} {a dx : Addr} {l : List Nat} {i : Nat} {d : V} (t : Tk hp a dx l i d) (j : Nat) (e : V) : Tk (Mine.upd hp dx (.dict (tokFs l j e))) a dx l j e := by
  obtain ⟨t1, t2, nn⟩ := t
  have had : a ≠ dx := kd_ne t1 t2 rfl
  exact ⟨(upd_ne had).trans t1, upd_self, nn⟩
theorem c_get {pp : Params} {X : Cx} {n : Nat} {σ : S} {E : Value → S → Prop} {a dx : Addr} {l : List Nat} {i : Nat} {d : V} {Q : V → S → Prop} (ok : Ok X (n + 3)) (hK : X.K = KK pp) (hP : X.prog = PySem.Challenge.rw_ij0062_02.row.prog) (hc : X.ctx = none) (tk : Tk σ.hp a dx l i d) (hd : ∀ w, d ≠ .lit w) (hl : l.length ≤ 1000) (hi : i ≤ 1000)
    (q : match sg l i with
      | none => E (.ref CP) σ
      | some (j, e) => Q d { σ with hp := upd σ.hp dx (.dict (tokFs l j e)) }) : Call X (.ref 79) [.ref a] σ Q E := by
  refine Call.fn' (names := ["self"]) (loc0 := [("self", .ref a)]) (n := n + 2) ok hK (f_get _) (bind1 fun v _ => by kernel_rfl) (by kernel_rfl) (by decide +kernel) rfl rfl fun Y okY hI => ?_
  have hKY : Y.K = KK pp := hI.K.trans hK
  have hcY : Y.ctx = none := hI.ctx.trans hc
  have hPY := hI.prog.trans hP
  have t1 := tk.inst
  have t2 := tk.dict
  conv in bodyAt _ _ => whnf
  ((try dsimp only); (with_reducible refine WXs_cons ?_))
  ((try dsimp only); (with_reducible refine WX_Assign (hs := ?hsz2) (by assumption) ?hkz2 ?_); (case hsz2 => intro _; rfl); (case hkz2 => (have hh := In.scope ‹In _ _ _›; exact kindE hh (by kernel_rfl))))
  refine W_field (by assumption) ?_ (by decide +kernel) (by ((with_reducible exact lk_hit))) t1 t2 (hKY ▸ kg_next _) (tok_next _ _ _) hd ?_
  · (have hh := In.scope ‹In _ _ _›; exact kindE hh (by kernel_rfl))
  ((try dsimp only); (with_reducible refine WXs_cons ?_))
  refine WX_Expr (hs := by intro _; rfl) okY ?_
  refine W_Method (hbase := by intro _; rfl) (hfew := by intro _; rfl) (hline := by rfl) (hplain := by intro _; rfl) okY ?_
  ((try dsimp only); ((with_reducible refine W_local (d := ?dz6) (by assumption) ?hkz6 ?hlz6 ?qz6 ?hdz6); (case hkz6 => (have hh := In.scope ‹In _ _ _›; exact kindE hh (by kernel_rfl))); (case hlz6 => ((with_reducible refine lkp_skip ?hne2z6 ?hrest2z6); (case hne2z6 => decide +kernel); (with_reducible exact lk_hit))); (case hdz6 => decide +kernel); (try dsimp only)))
  refine getm_inst okY t1 t2 (hKY ▸ km_next _) (by kernel_rfl) ⟨keeps_fn hKY (by kernel_rfl), ?_⟩
  refine WA_nil ?_
  refine c_next' (n := n) okY hKY hPY hcY tk hl hi ?_
  cases h : sg l i with
  | none => rw [h] at q; exact q
  | some je =>
    obtain ⟨j, e⟩ := je
    rw [h] at q
    dsimp only at q ⊢
    ((try dsimp only); (with_reducible refine WXs_cons ?_))
    ((try dsimp only); (with_reducible refine WX_Return ?_))
    ((try dsimp only); ((with_reducible refine W_local (d := ?dz9) (by assumption) ?hkz9 ?hlz9 ?qz9 ?hdz9); (case hkz9 => (have hh := In.scope ‹In _ _ _›; exact kindE hh (by kernel_rfl))); (case hlz9 => ((with_reducible exact lk_put_self))); (case hdz9 => decide +kernel); (try dsimp only)))
    exact q
theorem c_seek {pp : Params} {X : Cx} {n : Nat} {σ : S} {E : Value → S → Prop} {a dx : Addr} {l : List Nat} {i k : Nat} {d : V} {Q : V → S → Prop} (ok : Ok X (n + 3)) (hK : X.K = KK pp) (hP : X.prog = PySem.Challenge.rw_ij0062_02.row.prog) (hc : X.ctx = none) (tk : Tk σ.hp a dx l i d) (hl : l.length ≤ 1000) (hk : k ≤ 1000)
    (q : match sg l k with
      | none => E (.ref CP) { σ with hp := upd σ.hp dx (.dict (tokFs l k d)) }
      | some (j, e) => Q .none { σ with hp := upd σ.hp dx (.dict (tokFs l j e)) }) : Call X (.ref 115) [.ref a, .int k] σ Q E := by
  refine Call.fn' (names := ["self", "index"]) (loc0 := [("self", .ref a), ("index", .int k)]) (n := n + 2) ok hK (f_seek _) (bind2 fun v w _ => by kernel_rfl) (by kernel_rfl) (by decide +kernel) rfl rfl fun Y okY hI => ?_
  have hKY : Y.K = KK pp := hI.K.trans hK
  have hcY : Y.ctx = none := hI.ctx.trans hc
  have hPY := hI.prog.trans hP
  have t1 := tk.inst
  have t2 := tk.dict
  have tk' := tk.upd k d
  conv in bodyAt _ _ => whnf
  ((try dsimp only); (with_reducible refine WXs_cons ?_))
  ((try dsimp only); ((with_reducible refine WX_SetAttr (hs := ?hsz11) ?_); (case hsz11 => intro _; rfl)))
  ((try dsimp only); ((with_reducible refine W_local (d := ?dz12) (by assumption) ?hkz12 ?hlz12 ?qz12 ?hdz12); (case hkz12 => (have hh := In.scope ‹In _ _ _›; exact kindE hh (by kernel_rfl))); (case hlz12 => ((with_reducible refine lk_skip ?hne2z12 ?hrest2z12); (case hne2z12 => decide +kernel); (with_reducible exact lk_hit))); (case hdz12 => decide +kernel); (try dsimp only)))
  ((try dsimp only); ((with_reducible refine W_local (d := ?dz13) (by assumption) ?hkz13 ?hlz13 ?qz13 ?hdz13); (case hkz13 => (have hh := In.scope ‹In _ _ _›; exact kindE hh (by kernel_rfl))); (case hlz13 => ((with_reducible exact lk_hit))); (case hdz13 => decide +kernel); (try dsimp only)))
  refine sa_inst okY t1 t2 (hKY ▸ ks_index _) (by show 5 ≤ 90; decide) ?_
  rw [up_index]
  ((try dsimp only); (with_reducible refine WXs_cons ?_))
  refine WX_Expr (hs := by intro _; rfl) okY ?_
  refine W_Method (hbase := by intro _; rfl) (hfew := by intro _; rfl) (hline := by rfl) (hplain := by intro _; rfl) okY ?_
  ((try dsimp only); ((with_reducible refine W_local (d := ?dz15) (by assumption) ?hkz15 ?hlz15 ?qz15 ?hdz15); (case hkz15 => (have hh := In.scope ‹In _ _ _›; exact kindE hh (by kernel_rfl))); (case hlz15 => ((with_reducible exact lk_hit))); (case hdz15 => decide +kernel); (try dsimp only)))
  refine getm_inst okY tk'.inst tk'.dict (hKY ▸ km_next _) (by kernel_rfl) ⟨keeps_fn hKY (by kernel_rfl), ?_⟩
  refine WA_nil ?_
  refine c_next' (n := n) okY hKY hPY hcY tk' hl hk ?_
  cases h : sg l k with
  | none => rw [h] at q; exact q
  | some je =>
    obtain ⟨j, e⟩ := je
    rw [h] at q
    dsimp only at q ⊢
    ((try dsimp only); ((with_reducible refine WXs_nil ?_); (try dsimp only)))
    rw [upd_upd]
    exact q
theorem c_new {pp : Params} {X : Cx} {n : Nat} {σ : S} {E : Value → S → Prop} {l : List Nat} {Q : V → S → Prop} (ok : Ok X (n + 3)) (hK : X.K = KK pp) (hP : X.prog = PySem.Challenge.rw_ij0062_02.row.prog) (hc : X.ctx = none) (hl : l.length ≤ 1000) (nn : 10 ∉ l)
    (q : ∀ a dx hp', σ.hp a = none → σ.hp dx = none → (∀ b o, σ.hp b = some o → hp' b = some o) → match sg l 0 with
      | none => E (.ref CP) ⟨σ.loc, hp'⟩
      | some (j, e) => Tk hp' a dx l j e → Q (.ref a) ⟨σ.loc, hp'⟩) : Call X (.ref CT) [.str l] σ Q E := by
  refine Call.make' (names := ["self", "string"]) (loc0 := fun a => [("self", .ref a), ("string", .str l)]) (n := n + 2) ok hK (km_make _) (f_init _) (bind2 fun v w _ => by kernel_rfl) (by kernel_rfl) (by decide +kernel) rfl (fun _ => rfl) fun Y a dx okY hI ha hdx hne => ?_
  have hKY : Y.K = KK pp := hI.K.trans hK
  have hcY : Y.ctx = none := hI.ctx.trans hc
  have hPY := hI.prog.trans hP
  have stp : ∀ o : HO, upd (upd (upd σ.hp dx (.dict [])) a (.inst CT dx)) dx o a = some (.inst CT dx) ∧ upd (upd (upd σ.hp dx (.dict [])) a (.inst CT dx)) dx o dx = some o ∧ ∀ b o', σ.hp b = some o' → upd (upd (upd σ.hp dx (.dict [])) a (.inst CT dx)) dx o b = some o' := fun o =>
    ⟨by rw [upd_ne hne, upd_self], upd_self, fun b o' e => by
      rw [upd_ne (fun z => by rw [z, hdx] at e; cases e), upd_ne (fun z => by rw [z, ha] at e; cases e), upd_ne (fun z => by rw [z, hdx] at e; cases e)]; exact e⟩
  have t1 : upd (upd σ.hp dx (.dict [])) a (.inst CT dx) a = some (.inst CT dx) := upd_self
  have t2 : upd (upd σ.hp dx (.dict [])) a (.inst CT dx) dx = some (.dict []) := by rw [upd_ne hne.symm, upd_self]
  conv in bodyAt _ _ => whnf
  ((try dsimp only); (with_reducible refine WXs_cons ?_))
  ((try dsimp only); ((with_reducible refine WX_SetAttr (hs := ?hsz18) ?_); (case hsz18 => intro _; rfl)))
  refine W_Call (hplain := by intro _; rfl) okY ?_
  refine W_bi (v := .builtin "isinstance") okY hKY (by (have hh := In.scope ‹In _ _ _›; exact kindE hh (by kernel_rfl))) (b_isinst _) (by kernel_rfl) (by decide +kernel) (by decide +kernel) ?_
  refine ⟨_, rfl, keeps_builtin, ?_⟩
  refine WA_cons ?_
  ((try dsimp only); ((with_reducible refine W_local (d := ?dz20) (by assumption) ?hkz20 ?hlz20 ?qz20 ?hdz20); (case hkz20 => (have hh := In.scope ‹In _ _ _›; exact kindE hh (by kernel_rfl))); (case hlz20 => ((with_reducible refine lk_skip ?hne2z20 ?hrest2z20); (case hne2z20 => decide +kernel); (with_reducible exact lk_hit))); (case hdz20 => decide +kernel); (try dsimp only)))
  refine WA_cons ?_
  refine W_bi (v := .type "str") okY hKY (by (have hh := In.scope ‹In _ _ _›; exact kindE hh (by kernel_rfl))) (b_str _) (by kernel_rfl) (by decide +kernel) (by decide +kernel) ?_
  refine WA_nil ?_
  refine c_isstr ?_
  ((try dsimp only); ((with_reducible refine W_local (d := ?dz22) (by assumption) ?hkz22 ?hlz22 ?qz22 ?hdz22); (case hkz22 => (have hh := In.scope ‹In _ _ _›; exact kindE hh (by kernel_rfl))); (case hlz22 => ((with_reducible exact lk_hit))); (case hdz22 => decide +kernel); (try dsimp only)))
  refine sa_inst okY t1 t2 (hKY ▸ ks_istext _) (Nat.le_of_ble_eq_true (by kernel_rfl)) ?_
  ((try dsimp only); (with_reducible refine WXs_cons ?_))
  ((try dsimp only); ((with_reducible refine WX_SetAttr (hs := ?hsz24) ?_); (case hsz24 => intro _; rfl)))
  ((try dsimp only); ((with_reducible refine W_local (d := ?dz25) (by assumption) ?hkz25 ?hlz25 ?qz25 ?hdz25); (case hkz25 => (have hh := In.scope ‹In _ _ _›; exact kindE hh (by kernel_rfl))); (case hlz25 => ((with_reducible refine lk_skip ?hne2z25 ?hrest2z25); (case hne2z25 => decide +kernel); (with_reducible exact lk_hit))); (case hdz25 => decide +kernel); (try dsimp only)))
  ((try dsimp only); ((with_reducible refine W_local (d := ?dz26) (by assumption) ?hkz26 ?hlz26 ?qz26 ?hdz26); (case hkz26 => (have hh := In.scope ‹In _ _ _›; exact kindE hh (by kernel_rfl))); (case hlz26 => ((with_reducible exact lk_hit))); (case hdz26 => decide +kernel); (try dsimp only)))
  refine sa_inst okY (stp _).1 (stp _).2.1 (hKY ▸ ks_string _) (Nat.le_of_ble_eq_true (by kernel_rfl)) ?_
  rw [upd_upd]
  ((try dsimp only); (with_reducible refine WXs_cons ?_))
  ((try dsimp only); (with_reducible refine WX_If ?_))
  ((try dsimp only); (with_reducible refine WT_Not ?_))
  refine WT_value (he := by intro _ _; rfl) ?_
  refine W_field (d := .bool true) (by assumption) ?_ (by decide +kernel) (by ((with_reducible exact lk_hit))) (stp _).1 (stp _).2.1 (hKY ▸ kg_istext _) (by kernel_rfl) (nl rfl) (t_bool ?_)
  · (have hh := In.scope ‹In _ _ _›; exact kindE hh (by kernel_rfl))
  rw [if_neg (by decide)]
  ((try dsimp only); ((with_reducible refine WXs_nil ?_); (try dsimp only)))
  ((try dsimp only); (with_reducible refine WXs_cons ?_))
  ((try dsimp only); ((with_reducible refine WX_SetAttr (hs := ?hsz34) ?_); (case hsz34 => intro _; rfl)))
  ((try dsimp only); ((with_reducible refine W_local (d := ?dz35) (by assumption) ?hkz35 ?hlz35 ?qz35 ?hdz35); (case hkz35 => (have hh := In.scope ‹In _ _ _›; exact kindE hh (by kernel_rfl))); (case hlz35 => ((with_reducible refine lk_skip ?hne2z35 ?hrest2z35); (case hne2z35 => decide +kernel); (with_reducible exact lk_hit))); (case hdz35 => decide +kernel); (try dsimp only)))
  ((try dsimp only); ((with_reducible refine W_local (d := ?dz36) (by assumption) ?hkz36 ?hlz36 ?qz36 ?hdz36); (case hkz36 => (have hh := In.scope ‹In _ _ _›; exact kindE hh (by kernel_rfl))); (case hlz36 => ((with_reducible exact lk_hit))); (case hdz36 => decide +kernel); (try dsimp only)))
  refine sa_inst okY (stp _).1 (stp _).2.1 (hKY ▸ ks_dec _) (Nat.le_of_ble_eq_true (by kernel_rfl)) ?_
  rw [upd_upd]
  ((try dsimp only); (with_reducible refine WXs_cons ?_))
  ((try dsimp only); ((with_reducible refine WX_SetAttr (hs := ?hsz38) ?_); (case hsz38 => intro _; rfl)))
  ((try dsimp only); ((with_reducible refine W_int ?_); (try dsimp only)))
  ((try dsimp only); ((with_reducible refine W_local (d := ?dz40) (by assumption) ?hkz40 ?hlz40 ?qz40 ?hdz40); (case hkz40 => (have hh := In.scope ‹In _ _ _›; exact kindE hh (by kernel_rfl))); (case hlz40 => ((with_reducible exact lk_hit))); (case hdz40 => decide +kernel); (try dsimp only)))
  refine sa_inst okY (stp _).1 (stp _).2.1 (hKY ▸ ks_index _) (Nat.le_of_ble_eq_true (by kernel_rfl)) ?_
  rw [upd_upd]
  ((try dsimp only); (with_reducible refine WXs_cons ?_))
  ((try dsimp only); ((with_reducible refine WX_SetAttr (hs := ?hsz42) ?_); (case hsz42 => intro _; rfl)))
  ((try dsimp only); ((with_reducible refine W_none ?_); (try dsimp only)))
  ((try dsimp only); ((with_reducible refine W_local (d := ?dz44) (by assumption) ?hkz44 ?hlz44 ?qz44 ?hdz44); (case hkz44 => (have hh := In.scope ‹In _ _ _›; exact kindE hh (by kernel_rfl))); (case hlz44 => ((with_reducible exact lk_hit))); (case hdz44 => decide +kernel); (try dsimp only)))
  refine sa_inst okY (stp _).1 (stp _).2.1 (hKY ▸ ks_next _) (Nat.le_of_ble_eq_true (by kernel_rfl)) ?_
  rw [upd_upd]
  rw [show updF (updF (updF (updF (updF [] (Str.ofString "istext") (V.bool true)) (Str.ofString "string") (V.str l)) (Str.ofString "decoded_string") (V.str l)) (Str.ofString "index") (V.int 0)) (Str.ofString "next") V.none = tokFs l 0 .none from by kernel_rfl]
  have tk : Tk (upd (upd (upd σ.hp dx (.dict [])) a (.inst CT dx)) dx (.dict (tokFs l 0 .none))) a dx l 0 .none := ⟨(stp _).1, (stp _).2.1, nn⟩
  ((try dsimp only); (with_reducible refine WXs_cons ?_))
  refine WX_Expr (hs := by intro _; rfl) okY ?_
  refine W_Method (hbase := by intro _; rfl) (hfew := by intro _; rfl) (hline := by rfl) (hplain := by intro _; rfl) okY ?_
  ((try dsimp only); ((with_reducible refine W_local (d := ?dz46) (by assumption) ?hkz46 ?hlz46 ?qz46 ?hdz46); (case hkz46 => (have hh := In.scope ‹In _ _ _›; exact kindE hh (by kernel_rfl))); (case hlz46 => ((with_reducible exact lk_hit))); (case hdz46 => decide +kernel); (try dsimp only)))
  refine getm_inst okY tk.inst tk.dict (hKY ▸ km_next _) (by kernel_rfl) ⟨keeps_fn hKY (by kernel_rfl), ?_⟩
  refine WA_nil ?_
  refine c_next' (n := n) okY hKY hPY hcY tk hl (by omega) ?_
  cases h : sg l 0 with
  | none =>
    have q' := q a dx _ ha hdx (stp (.dict (tokFs l 0 .none))).2.2
    rw [h] at q'; exact q'
  | some je =>
    obtain ⟨j, e⟩ := je
    have q' := q a dx _ ha hdx (stp (.dict (tokFs l j e))).2.2
    rw [h] at q'
    dsimp only at q' ⊢
    ((try dsimp only); ((with_reducible refine WXs_nil ?_); (try dsimp only)))
    rw [upd_upd]
    exact ⟨rfl, q' ⟨(stp _).1, (stp _).2.1, nn⟩⟩
end Mine
namespace Mine
open PySem PySem.W PySem.Calls PySem.Spec PyProof.Rows
inductive Rd (l : List Nat) (i : Nat) (err : Bool) : V → List (List Nat) → Prop
  | nil : i ≤ l.length → l.length ≤ i → err = false → Rd l i err .none []
  | cons (s : List Nat) (S' : List (List Nat)) : i ≤ l.length → s ≠ [] → s.length ≤ 2 → rs (l.drop i) = (S', err) → Rd l i err (.str s) (s :: S')
theorem Rd.le {l : List Nat} {i : Nat} {err : Bool} {d : V} {S : List (List Nat)} (x : Rd l i err d S) : i ≤ l.length := by cases x <;> assumption
theorem Rd.lit {l : List Nat} {i : Nat} {err : Bool} {d : V} {S : List (List Nat)} (x : Rd l i err d S) : ∀ w, d ≠ .lit w := by cases x <;> (intro w e; cases e)
theorem sg_rs {l : List Nat} {i : Nat} (hi : i ≤ l.length) : match sg l i with
    | none => rs (l.drop i) = ([], true)
    | some (j, d) => Rd l j (rs (l.drop i)).2 d (rs (l.drop i)).1 := by
  unfold sg
  cases h : l[i]? with
  | none =>
    have hl : l.length ≤ i := List.getElem?_eq_none_iff.mp h
    have : l.drop i = [] := List.drop_eq_nil_of_le hl
    dsimp only
    rw [this]
    exact .nil hi hl rfl
  | some c =>
    obtain ⟨hlt, hc⟩ := List.getElem?_eq_some_iff.mp h
    have e1 : l.drop i = c :: l.drop (i + 1) := by rw [List.drop_eq_getElem_cons hlt, hc]
    dsimp only
    by_cases h92 : c = 92
    · subst h92
      rw [if_pos rfl]
      cases h2 : l[i + 1]? with
      | none =>
        have : l.drop (i + 1) = [] := List.drop_eq_nil_of_le (List.getElem?_eq_none_iff.mp h2)
        dsimp only
        rw [e1, this]; rfl
      | some c2 =>
        obtain ⟨hlt2, hc2⟩ := List.getElem?_eq_some_iff.mp h2
        have e2 : l.drop (i + 1) = c2 :: l.drop (i + 2) := by rw [List.drop_eq_getElem_cons hlt2, hc2]
        dsimp only
        rw [e1, e2, rs_esc]
        exact .cons _ _ (by omega) (by simp) (by simp) rfl
    · rw [if_neg h92]
      dsimp only
      rw [e1, rs_plain _ h92]
      exact .cons _ _ (by omega) (by simp) (by simp) rfl
theorem sg_cons {l : List Nat} {i : Nat} {err : Bool} {s : List Nat} {S' : List (List Nat)} (x : Rd l i err (.str s) (s :: S')) : match sg l i with
    | none => S' = [] ∧ err = true
    | some (j, d) => Rd l j err d S' := by
  cases x with
  | cons _ _ hi h1 h2 h3 =>
    have y := sg_rs hi
    rw [h3] at y
    cases h : sg l i with
    | none => rw [h] at y; simpa using y
    | some jd => rw [h] at y; exact y
theorem sg_nil {l : List Nat} {i : Nat} {err : Bool} (x : Rd l i err .none []) : sg l i = some (i, .none) := by
  cases x with
  | nil h1 h2 _ => unfold sg; rw [List.getElem?_eq_none_iff.mpr h2]
theorem s_e : (Str.ofString "").cps.toList = [] := by decide +kernel
noncomputable def nlen : V → Nat
  | .str s => s.length
  | _ => 0
theorem Rd.sgn {l : List Nat} {i : Nat} {err : Bool} {d : V} {S : List (List Nat)} (x : Rd l i err d S) : d = .none ∨ ∃ s, s ≠ [] ∧ s.length ≤ 2 ∧ d = .str s := by
  cases x with
  | nil => exact .inl rfl
  | cons s S' h1 h2 h3 h4 => exact .inr ⟨s, h2, h3, rfl⟩
theorem c_tell {pp : Params} {X : Cx} {n : Nat} {σ : S} {E : Value → S → Prop} {a dx : Addr} {l : List Nat} {i : Nat} {d : V} {Q : V → S → Prop} (ok : Ok X (n + 1)) (hK : X.K = KK pp) (tk : Tk σ.hp a dx l i d) (hd : d = .none ∨ ∃ s, s ≠ [] ∧ s.length ≤ 2 ∧ d = .str s)
    (q : Q (.int ((i : Int) - (nlen d : Nat))) σ) : Call X (.ref 108) [.ref a] σ Q E := by
  refine Call.fn' (names := ["self"]) (loc0 := [("self", .ref a)]) (n := n) ok hK (f_tell _) (bind1 fun v _ => by kernel_rfl) (by kernel_rfl) (by decide +kernel) rfl rfl fun Y okY hI => ?_
  have hKY : Y.K = KK pp := hI.K.trans hK
  obtain ⟨t1, t2, nn⟩ := tk
  conv in bodyAt _ _ => whnf
  refine W.hide fun Q1 E1 hQ1 hE1 => ?_
  ((try dsimp only); (with_reducible refine WXs_cons ?_))
  ((try dsimp only); (with_reducible refine WX_Return ?_))
  ((try dsimp only); (with_reducible refine W_BinOp ?_))
  refine W_field (by assumption) ?_ (by decide +kernel) (by ((with_reducible exact lk_hit))) t1 t2 (hKY ▸ kg_index _) (tok_index _ _ _) (nl rfl) ?_
  · (have hh := In.scope ‹In _ _ _›; exact kindE hh (by kernel_rfl))
  refine W_Call (hplain := by intro _; rfl) okY ?_
  refine W_bi (v := .builtin "len") okY hKY (by (have hh := In.scope ‹In _ _ _›; exact kindE hh (by kernel_rfl))) (b_len _) (by kernel_rfl) (by decide +kernel) (by decide +kernel) ?_
  refine ⟨_, rfl, keeps_builtin, ?_⟩
  refine WA_cons ?_
  refine W_Or ?_
  refine W_field (by assumption) ?_ (by decide +kernel) (by ((with_reducible exact lk_hit))) t1 t2 (hKY ▸ kg_next _) (tok_next _ _ _) ?_ ?_
  · (have hh := In.scope ‹In _ _ _›; exact kindE hh (by kernel_rfl))
  · rcases hd with rfl | ⟨s, _, _, rfl⟩ <;> (intro w e; cases e)
  rcases hd with rfl | ⟨s, h1, h2, rfl⟩
  · refine t_none ?_
    rw [if_neg (by decide)]
    refine W_str s_e ?_
    refine WA_nil ?_
    refine c_lens (by simp) ?_
    exact o_subi (hQ1 _ _ q)
  · refine t_str (by omega) ?_
    have hne : (!s.isEmpty) = true := by cases s with | nil => exact absurd rfl h1 | cons _ _ => rfl
    rw [hne, if_pos rfl]
    refine WA_nil ?_
    refine c_lens (by omega) ?_
    exact o_subi (hQ1 _ _ q)
end Mine
namespace Mine
open PySem PySem.W PySem.Calls PySem.Spec PyProof.Rows
theorem c_error {pp : Params} {X : Cx} {n : Nat} {σ : S} {E : Value → S → Prop} {a dx : Addr} {l m : List Nat} {i o : Nat} {d : V} {Q : V → S → Prop} (ok : Ok X (n + 2)) (hK : X.K = KK pp) (hP : X.prog = PySem.Challenge.rw_ij0062_02.row.prog) (tk : Tk σ.hp a dx l i d) (hd : d = .none ∨ ∃ s, s ≠ [] ∧ s.length ≤ 2 ∧ d = .str s) (hm : m.length ≤ 1000) (hl : l.length ≤ 1000) (hi : i ≤ 1000) (ho : nlen d + o ≤ i)
    (q : ∀ ea d' hp', σ.hp ea = none → hp' ea = some (.exc CP (some d')) → (∀ b o, σ.hp b = some o → hp' b = some o) → Q (.ref ea) ⟨σ.loc, hp'⟩) : Call X (.ref 123) [.ref a, .str m, .int o] σ Q E := by
  refine Call.fn' (names := ["self", "msg", "offset"]) (loc0 := [("self", .ref a), ("msg", .str m), ("offset", .int o)]) (n := n + 1) ok hK (f_error _) (bind3 fun u v w _ => by kernel_rfl) (by kernel_rfl) (by decide +kernel) rfl rfl fun Y okY hI => ?_
  have hKY : Y.K = KK pp := hI.K.trans hK
  have t1 := tk.inst
  have t2 := tk.dict
  conv in bodyAt _ _ => whnf
  refine W.hide fun Q1 E1 hQ1 hE1 => ?_
  ((try dsimp only); (with_reducible refine WXs_cons ?_))
  refine WX_If ?_
  refine WT_Not ?_
  refine WT_value (he := by intro _ _; rfl) ?_
  refine W_field (d := .bool true) (by assumption) ?_ (by decide +kernel) (by ((with_reducible exact lk_hit))) t1 t2 (hKY ▸ kg_istext _) (by kernel_rfl) (nl rfl) (t_bool ?_)
  · (have hh := In.scope ‹In _ _ _›; exact kindE hh (by kernel_rfl))
  rw [if_neg (by decide)]
  ((try dsimp only); ((with_reducible refine WXs_nil ?_); (try dsimp only)))
  ((try dsimp only); (with_reducible refine WXs_cons ?_))
  ((try dsimp only); (with_reducible refine WX_Return ?_))
  refine W_Call (hplain := by intro _; rfl) okY ?_
  refine W_gl okY hKY (by (have hh := In.scope ‹In _ _ _›; exact kindE hh (by kernel_rfl))) (g_err _) (by decide +kernel) ?_
  refine ⟨_, rfl, keeps_fn hKY (by kernel_rfl), ?_⟩
  refine WA_cons ?_
  ((try dsimp only); ((with_reducible refine W_local (d := ?dz124) (by assumption) ?hkz124 ?hlz124 ?qz124 ?hdz124); (case hkz124 => (have hh := In.scope ‹In _ _ _›; exact kindE hh (by kernel_rfl))); (case hlz124 => ((with_reducible refine lk_skip ?hne2z124 ?hrest2z124); (case hne2z124 => decide +kernel); (with_reducible exact lk_hit))); (case hdz124 => decide +kernel); (try dsimp only)))
  refine WA_cons ?_
  refine W_field (by assumption) ?_ (by decide +kernel) (by ((with_reducible exact lk_hit))) t1 t2 (hKY ▸ kg_string _) (tok_str _ _ _) (nl rfl) ?_
  · (have hh := In.scope ‹In _ _ _›; exact kindE hh (by kernel_rfl))
  refine WA_cons ?_
  ((try dsimp only); (with_reducible refine W_BinOp ?_))
  refine W_Method (hbase := by intro _; rfl) (hfew := by intro _; rfl) (hline := by rfl) (hplain := by intro _; rfl) okY ?_
  ((try dsimp only); ((with_reducible refine W_local (d := ?dz128) (by assumption) ?hkz128 ?hlz128 ?qz128 ?hdz128); (case hkz128 => (have hh := In.scope ‹In _ _ _›; exact kindE hh (by kernel_rfl))); (case hlz128 => ((with_reducible exact lk_hit))); (case hdz128 => decide +kernel); (try dsimp only)))
  refine getm_inst okY t1 t2 (hKY ▸ km_tell _) (by kernel_rfl) ⟨keeps_fn hKY (by kernel_rfl), ?_⟩
  refine WA_nil ?_
  refine c_tell (n := n) okY hKY tk hd ?_
  ((try dsimp only); ((with_reducible refine W_local (d := ?dz129) (by assumption) ?hkz129 ?hlz129 ?qz129 ?hdz129); (case hkz129 => (have hh := In.scope ‹In _ _ _›; exact kindE hh (by kernel_rfl))); (case hlz129 => ((with_reducible refine lk_skip ?hne3z129 ?hrest3z129); (case hne3z129 => decide +kernel); (with_reducible refine lk_skip ?hne2z129 ?hrest2z129); (case hne2z129 => decide +kernel); (with_reducible exact lk_hit))); (case hdz129 => decide +kernel); (try dsimp only)))
  refine o_subi ?_
  refine WA_nil ?_
  rw [show ((i : Int) - (nlen d : Nat) - (o : Nat)) = ((i - nlen d - o : Nat) : Int) from by omega]
  refine c_err (n := n) okY hKY (hI.prog.trans hP) hm hl tk.nn (by omega) fun ea de hp' h1 h2 h3 => ?_
  exact hQ1 _ _ (q ea de hp' h1 h2 h3)
theorem c_error0 {pp : Params} {X : Cx} {n : Nat} {σ : S} {E : Value → S → Prop} {a dx : Addr} {l m : List Nat} {i : Nat} {d : V} {Q : V → S → Prop} (ok : Ok X (n + 2)) (hK : X.K = KK pp) (hP : X.prog = PySem.Challenge.rw_ij0062_02.row.prog) (tk : Tk σ.hp a dx l i d) (hd : d = .none ∨ ∃ s, s ≠ [] ∧ s.length ≤ 2 ∧ d = .str s) (hm : m.length ≤ 1000) (hl : l.length ≤ 1000) (hi : i ≤ 1000) (ho : nlen d ≤ i)
    (q : ∀ ea d' hp', σ.hp ea = none → hp' ea = some (.exc CP (some d')) → (∀ b o, σ.hp b = some o → hp' b = some o) → Q (.ref ea) ⟨σ.loc, hp'⟩) : Call X (.ref 123) [.ref a, .str m] σ Q E := by
  refine Call.fnD (names := ["self", "msg"]) (x := "offset") (v0 := .int 0 327) (d0 := .int 0) (loc0 := [("self", .ref a), ("msg", .str m), ("offset", .int 0)]) (n := n + 1) ok hK (f_error _) (bind2 fun u v _ => by kernel_rfl) (by kernel_rfl) (by decide +kernel) rfl (fun _ _ => .int _ _) rfl fun Y okY hI => ?_
  have hKY : Y.K = KK pp := hI.K.trans hK
  have t1 := tk.inst
  have t2 := tk.dict
  conv in bodyAt _ _ => whnf
  refine W.hide fun Q1 E1 hQ1 hE1 => ?_
  ((try dsimp only); (with_reducible refine WXs_cons ?_))
  refine WX_If ?_
  refine WT_Not ?_
  refine WT_value (he := by intro _ _; rfl) ?_
  refine W_field (d := .bool true) (by assumption) ?_ (by decide +kernel) (by ((with_reducible exact lk_hit))) t1 t2 (hKY ▸ kg_istext _) (by kernel_rfl) (nl rfl) (t_bool ?_)
  · (have hh := In.scope ‹In _ _ _›; exact kindE hh (by kernel_rfl))
  rw [if_neg (by decide)]
  ((try dsimp only); ((with_reducible refine WXs_nil ?_); (try dsimp only)))
  ((try dsimp only); (with_reducible refine WXs_cons ?_))
  ((try dsimp only); (with_reducible refine WX_Return ?_))
  refine W_Call (hplain := by intro _; rfl) okY ?_
  refine W_gl okY hKY (by (have hh := In.scope ‹In _ _ _›; exact kindE hh (by kernel_rfl))) (g_err _) (by decide +kernel) ?_
  refine ⟨_, rfl, keeps_fn hKY (by kernel_rfl), ?_⟩
  refine WA_cons ?_
  ((try dsimp only); ((with_reducible refine W_local (d := ?dz137) (by assumption) ?hkz137 ?hlz137 ?qz137 ?hdz137); (case hkz137 => (have hh := In.scope ‹In _ _ _›; exact kindE hh (by kernel_rfl))); (case hlz137 => ((with_reducible refine lk_skip ?hne2z137 ?hrest2z137); (case hne2z137 => decide +kernel); (with_reducible exact lk_hit))); (case hdz137 => decide +kernel); (try dsimp only)))
  refine WA_cons ?_
  refine W_field (by assumption) ?_ (by decide +kernel) (by ((with_reducible exact lk_hit))) t1 t2 (hKY ▸ kg_string _) (tok_str _ _ _) (nl rfl) ?_
  · (have hh := In.scope ‹In _ _ _›; exact kindE hh (by kernel_rfl))
  refine WA_cons ?_
  ((try dsimp only); (with_reducible refine W_BinOp ?_))
  refine W_Method (hbase := by intro _; rfl) (hfew := by intro _; rfl) (hline := by rfl) (hplain := by intro _; rfl) okY ?_
  ((try dsimp only); ((with_reducible refine W_local (d := ?dz141) (by assumption) ?hkz141 ?hlz141 ?qz141 ?hdz141); (case hkz141 => (have hh := In.scope ‹In _ _ _›; exact kindE hh (by kernel_rfl))); (case hlz141 => ((with_reducible exact lk_hit))); (case hdz141 => decide +kernel); (try dsimp only)))
  refine getm_inst okY t1 t2 (hKY ▸ km_tell _) (by kernel_rfl) ⟨keeps_fn hKY (by kernel_rfl), ?_⟩
  refine WA_nil ?_
  refine c_tell (n := n) okY hKY tk hd ?_
  ((try dsimp only); ((with_reducible refine W_local (d := ?dz142) (by assumption) ?hkz142 ?hlz142 ?qz142 ?hdz142); (case hkz142 => (have hh := In.scope ‹In _ _ _›; exact kindE hh (by kernel_rfl))); (case hlz142 => ((with_reducible refine lk_skip ?hne3z142 ?hrest3z142); (case hne3z142 => decide +kernel); (with_reducible refine lk_skip ?hne2z142 ?hrest2z142); (case hne2z142 => decide +kernel); (with_reducible exact lk_hit))); (case hdz142 => decide +kernel); (try dsimp only)))
  refine o_subi ?_
  refine WA_nil ?_
  rw [show ((i : Int) - (nlen d : Nat) - 0) = ((i - nlen d : Nat) : Int) from by omega]
  refine c_err (n := n) okY hKY (hI.prog.trans hP) hm hl tk.nn (by omega) fun ea de hp' h1 h2 h3 => ?_
  exact hQ1 _ _ (q ea de hp' h1 h2 h3)
end Mine
namespace Mine
open PySem PySem.W PySem.Calls PySem.Spec PyProof.Rows
theorem Rd.posE {l : List Nat} {i : Nat} {err : Bool} {d : V} {S : List (List Nat)} (x : Rd l i err d S) : (i : Int) - (nlen d : Nat) = (l.length : Int) - S.flatten.length - (if err then 1 else 0) := by
  cases x with
  | nil h1 h2 h3 => simp [nlen, h3]; omega
  | cons s S' h1 h2 h3 h4 =>
    have h := rs_flat (l.drop i)
    rw [h4] at h
    have e := congrArg List.length h
    cases err
    · simp only [Bool.false_eq_true, if_false, List.append_nil, List.length_drop] at e ⊢
      simp only [nlen, List.flatten_cons, List.length_append]
      omega
    · simp only [if_true, List.length_append, List.length_drop, List.length_cons, List.length_nil] at e ⊢
      simp only [nlen, List.flatten_cons, List.length_append]
      omega
noncomputable def gu (t : List Nat) : List Nat → List (List Nat) → Bool → Option (List Nat × List (List Nat))
  | _, [], _ => none
  | res, s :: S, err => if S = [] ∧ err = true then none else if s = t then (if res = [] then none else some (res, S)) else gu t (res ++ s) S err
inductive UInv (t nm l : List Nat) (err : Bool) (SS : List (List Nat)) (hp : Addr → Option HO) (a dx : Addr) (k : Nat) (σ' : S) : Prop
  | mk (j : Nat) (dd : V) (S' : List (List Nat)) (res : List Nat) (e : k = S'.length) (rd : Rd l j err dd S') (eg : gu t res S' err = gu t [] SS err) (hf : (res.length : Int) + S'.flatten.length + (if err then 1 else 0) ≤ l.length) (eh : σ'.hp = upd hp dx (.dict (tokFs l j dd)))
    (et : lk σ'.loc "self" = some (.ref a)) (etm : lk σ'.loc "terminator" = some (.str t)) (en : lk σ'.loc "name" = some (.str nm)) (er : lk σ'.loc "result" = some (.str res))
theorem s_miss : (Str.ofString "missing ").cps.toList = [109, 105, 115, 115, 105, 110, 103, 32] := by decide +kernel
theorem c_gun {pp : Params} {X : Cx} {n : Nat} {σ : S} {E : Value → S → Prop} {a dx : Addr} {l t nm : List Nat} {i : Nat} {d : V} {err : Bool} {SS : List (List Nat)} {Q : V → S → Prop} (ok : Ok X (n + 3)) (hK : X.K = KK pp) (hP : X.prog = PySem.Challenge.rw_ij0062_02.row.prog) (hc : X.ctx = none) (tk : Tk σ.hp a dx l i d) (hl : l.length ≤ 1000) (rd : Rd l i err d SS) (ht : t.length ≤ 100) (hnm : nm.length ≤ 100) (hS : (SS.flatten.length : Int) + (if err then 1 else 0) ≤ l.length)
    (q : match gu t [] SS err with
      | none => ∀ j e, (∀ w, e ≠ .lit w) → E (.ref CP) { σ with hp := upd σ.hp dx (.dict (tokFs l j e)) }
      | some (r, S') => ∀ j e, Rd l j err e S' → Q (.str r) { σ with hp := upd σ.hp dx (.dict (tokFs l j e)) }) : Call X (.ref 93) [.ref a, .str t, .str nm] σ Q E := by
  refine Call.fn' (names := ["self", "terminator", "name"]) (loc0 := [("self", .ref a), ("terminator", .str t), ("name", .str nm)]) (n := n + 2) ok hK (f_gun _) (bind3 fun u v w _ => by kernel_rfl) (by kernel_rfl) (by decide +kernel) rfl rfl fun Y okY hI => ?_
  have hKY : Y.K = KK pp := hI.K.trans hK
  have hcY : Y.ctx = none := hI.ctx.trans hc
  have hPY := hI.prog.trans hP
  obtain ⟨t1, t2, nn⟩ := tk
  have had : a ≠ dx := kd_ne t1 t2 rfl
  conv in bodyAt _ _ => whnf
  refine W.hide fun Q1 E1 hQ1 hE1 => ?_
  ((try dsimp only); (with_reducible refine WXs_cons ?_))
  ((try dsimp only); (with_reducible refine WX_Assign (hs := ?hsz212) (by assumption) ?hkz212 ?_); (case hsz212 => intro _; rfl); (case hkz212 => (have hh := In.scope ‹In _ _ _›; exact kindE hh (by kernel_rfl))))
  refine W_str s_e ?_
  ((try dsimp only); (with_reducible refine WXs_cons ?_))
  refine WX_While okY hI.env (UInv t nm l err SS σ.hp a dx) (fun k σ' inv => ?_) SS.length ⟨i, d, SS, [], rfl, rd, rfl, by rw [List.length_nil, Int.natCast_zero, Int.zero_add]; exact hS, ?_, by ((with_reducible refine lkp_skip ?hne2z214 ?hrest2z214); (case hne2z214 => decide +kernel); (with_reducible exact lk_hit)), by ((with_reducible refine lkp_skip ?hne3z215 ?hrest3z215); (case hne3z215 => decide +kernel); (with_reducible refine lk_skip ?hne2z215 ?hrest2z215); (case hne2z215 => decide +kernel); (with_reducible exact lk_hit)), by ((with_reducible refine lkp_skip ?hne4z216 ?hrest4z216); (case hne4z216 => decide +kernel); (with_reducible refine lk_skip ?hne3z216 ?hrest3z216); (case hne3z216 => decide +kernel); (with_reducible refine lk_skip ?hne2z216 ?hrest2z216); (case hne2z216 => decide +kernel); (with_reducible exact lk_hit)), by ((with_reducible exact lk_put_self))⟩
  · obtain ⟨loc, hp⟩ := σ'
    obtain ⟨j, dd, S', res, rfl, rd', eg, hf, eh, et, etm, en, er⟩ := inv
    dsimp only at et etm en er eh
    have tk1 : Tk hp a dx l j dd := eh ▸ ⟨(upd_ne had).trans t1, upd_self, nn⟩
    have hjl := rd'.le
    have hpos := rd'.posE
    refine WT_value (he := by intro _ _; rfl) ?_
    ((try dsimp only); ((with_reducible refine W_bool ?_); (try dsimp only)))
    refine t_bool ?_
    rw [if_pos rfl]
    refine W.hideQ fun Q2 hQ2 => ?_
    ((try dsimp only); (with_reducible refine WXs_cons ?_))
    ((try dsimp only); (with_reducible refine WX_Assign (hs := ?hsz220) (by assumption) ?hkz220 ?_); (case hsz220 => intro _; rfl); (case hkz220 => (have hh := In.scope ‹In _ _ _›; exact kindE hh (by kernel_rfl))))
    refine W_field (by assumption) ?_ (by decide +kernel) (by ((with_reducible assumption))) tk1.inst tk1.dict (hKY ▸ kg_next _) (tok_next _ _ _) rd'.lit ?_
    · (have hh := In.scope ‹In _ _ _›; exact kindE hh (by kernel_rfl))
    ((try dsimp only); (with_reducible refine WXs_cons ?_))
    refine WX_Expr (hs := by intro _; rfl) okY ?_
    refine W_Method (hbase := by intro _; rfl) (hfew := by intro _; rfl) (hline := by rfl) (hplain := by intro _; rfl) okY ?_
    ((try dsimp only); ((with_reducible refine W_local (d := ?dz224) (by assumption) ?hkz224 ?hlz224 ?qz224 ?hdz224); (case hkz224 => (have hh := In.scope ‹In _ _ _›; exact kindE hh (by kernel_rfl))); (case hlz224 => ((with_reducible refine lkp_skip ?hne2z224 ?hrest2z224); (case hne2z224 => decide +kernel); (with_reducible assumption))); (case hdz224 => decide +kernel); (try dsimp only)))
    refine getm_inst okY tk1.inst tk1.dict (hKY ▸ km_next _) (by kernel_rfl) ⟨keeps_fn hKY (by kernel_rfl), ?_⟩
    refine WA_nil ?_
    refine c_next' (n := n) okY hKY hPY hcY tk1 hl (by omega) ?_
    have hctx : ∀ p, Y.ctx = some p → p.2 = true := fun p hp => by rw [hcY] at hp; cases hp
    have com : ∀ D, upd hp dx D = upd σ.hp dx D := fun D => by rw [eh, upd_upd]
    cases rd' with
    | nil h1 h2 h3 =>
      have rd' : Rd l j err .none [] := .nil h1 h2 h3
      rw [← eg, show gu t res [] err = none from by cases res <;> rfl] at q
      dsimp only at q
      rw [sg_nil rd']
      dsimp only
      have tk2 := tk1.upd j .none
      have qq := q j .none (nl rfl)
      rw [← com] at qq
      generalize upd hp dx (.dict (tokFs l j .none)) = hp2 at tk2 qq ⊢
      ((try dsimp only); (with_reducible refine WXs_cons ?_))
      ((try dsimp only); (with_reducible refine WX_If ?_))
      ((try dsimp only); ((with_reducible refine WT_Compare (hm := ?hmz227) ?_); (case hmz227 => with_unfolding_all rfl)))
      ((try dsimp only); ((with_reducible refine W_local (d := ?dz228) (by assumption) ?hkz228 ?hlz228 ?qz228 ?hdz228); (case hkz228 => (have hh := In.scope ‹In _ _ _›; exact kindE hh (by kernel_rfl))); (case hlz228 => ((with_reducible exact lk_put_self))); (case hdz228 => decide +kernel); (try dsimp only)))
      ((try dsimp only); ((with_reducible refine W_none ?_); (try dsimp only)))
      refine o_isnone trivial (t_bool ?_)
      rw [if_pos (by rfl)]
      ((try dsimp only); (with_reducible refine WXs_cons ?_))
      refine WX_If ?_
      refine WT_Not ?_
      refine WT_value (he := by intro _ _; rfl) ?_
      ((try dsimp only); ((with_reducible refine W_local (d := ?dz231) (by assumption) ?hkz231 ?hlz231 ?qz231 ?hdz231); (case hkz231 => (have hh := In.scope ‹In _ _ _›; exact kindE hh (by kernel_rfl))); (case hlz231 => ((with_reducible refine lkp_skip ?hne2z231 ?hrest2z231); (case hne2z231 => decide +kernel); (with_reducible assumption))); (case hdz231 => decide +kernel); (try dsimp only)))
      refine t_str (by omega) ?_
      by_cases hr : res = []
      · rw [if_pos (by rw [hr]; rfl)]
        ((try dsimp only); (with_reducible refine WXs_cons ?_))
        refine WX_Raise okY hctx ?_
        refine W_Method (hbase := by intro _; rfl) (hfew := by intro _; rfl) (hline := by rfl) (hplain := by intro _; rfl) okY ?_
        ((try dsimp only); ((with_reducible refine W_local (d := ?dz233) (by assumption) ?hkz233 ?hlz233 ?qz233 ?hdz233); (case hkz233 => (have hh := In.scope ‹In _ _ _›; exact kindE hh (by kernel_rfl))); (case hlz233 => ((with_reducible refine lkp_skip ?hne2z233 ?hrest2z233); (case hne2z233 => decide +kernel); (with_reducible assumption))); (case hdz233 => decide +kernel); (try dsimp only)))
        refine getm_inst okY tk2.inst tk2.dict (hKY ▸ km_error _) (by kernel_rfl) ⟨keeps_fn hKY (by kernel_rfl), ?_⟩
        refine WA_cons ?_
        ((try dsimp only); (with_reducible refine W_BinOp ?_))
        refine W_str s_miss ?_
        ((try dsimp only); ((with_reducible refine W_local (d := ?dz235) (by assumption) ?hkz235 ?hlz235 ?qz235 ?hdz235); (case hkz235 => (have hh := In.scope ‹In _ _ _›; exact kindE hh (by kernel_rfl))); (case hlz235 => ((with_reducible refine lkp_skip ?hne2z235 ?hrest2z235); (case hne2z235 => decide +kernel); (with_reducible assumption))); (case hdz235 => decide +kernel); (try dsimp only)))
        refine o_adds (by simp; omega) ?_
        refine WA_nil ?_
        refine c_error0 (n := n) okY hKY hPY tk2 (.inl rfl) (by simp; omega) hl (by omega) (by simp [nlen]) fun ea d' hp' u1 u2 u3 => ?_
        exact ⟨ea, CP, some d', hp2, rfl, u2, hKY ▸ kx_exc _, u3, u1, hE1 _ _ qq⟩
      · rw [if_neg (by simpa using hr)]
        ((try dsimp only); ((with_reducible refine WXs_nil ?_); (try dsimp only)))
        ((try dsimp only); (with_reducible refine WXs_cons ?_))
        refine WX_Raise okY hctx ?_
        refine W_Method (hbase := by intro _; rfl) (hfew := by intro _; rfl) (hline := by rfl) (hplain := by intro _; rfl) okY ?_
        ((try dsimp only); ((with_reducible refine W_local (d := ?dz238) (by assumption) ?hkz238 ?hlz238 ?qz238 ?hdz238); (case hkz238 => (have hh := In.scope ‹In _ _ _›; exact kindE hh (by kernel_rfl))); (case hlz238 => ((with_reducible refine lkp_skip ?hne2z238 ?hrest2z238); (case hne2z238 => decide +kernel); (with_reducible assumption))); (case hdz238 => decide +kernel); (try dsimp only)))
        refine getm_inst okY tk2.inst tk2.dict (hKY ▸ km_error _) (by kernel_rfl) ⟨keeps_fn hKY (by kernel_rfl), ?_⟩
        refine WA_cons ?_
        ((try dsimp only); (with_reducible refine W_BinOp ?_))
        refine W_str rfl ?_
        ((try dsimp only); ((with_reducible refine W_local (d := ?dz240) (by assumption) ?hkz240 ?hlz240 ?qz240 ?hdz240); (case hkz240 => (have hh := In.scope ‹In _ _ _›; exact kindE hh (by kernel_rfl))); (case hlz240 => ((with_reducible refine lkp_skip ?hne2z240 ?hrest2z240); (case hne2z240 => decide +kernel); (with_reducible assumption))); (case hdz240 => decide +kernel); (try dsimp only)))
        refine pct_name rfl (by omega) fun y hy => ?_
        refine WA_cons ?_
        refine W_Call (hplain := by intro _; rfl) okY ?_
        refine W_bi (v := .builtin "len") okY hKY (by (have hh := In.scope ‹In _ _ _›; exact kindE hh (by kernel_rfl))) (b_len _) (by kernel_rfl) (by decide +kernel) (by decide +kernel) ?_
        refine ⟨_, rfl, keeps_builtin, ?_⟩
        refine WA_cons ?_
        ((try dsimp only); ((with_reducible refine W_local (d := ?dz242) (by assumption) ?hkz242 ?hlz242 ?qz242 ?hdz242); (case hkz242 => (have hh := In.scope ‹In _ _ _›; exact kindE hh (by kernel_rfl))); (case hlz242 => ((with_reducible refine lkp_skip ?hne2z242 ?hrest2z242); (case hne2z242 => decide +kernel); (with_reducible assumption))); (case hdz242 => decide +kernel); (try dsimp only)))
        refine WA_nil ?_
        refine c_lens (by omega) ?_
        refine WA_nil ?_
        refine c_error (n := n) (o := res.length) okY hKY hPY tk2 (.inl rfl) (by omega) hl (by omega) (by simp only [nlen]; omega) fun ea d' hp' u1 u2 u3 => ?_
        exact ⟨ea, CP, some d', hp2, rfl, u2, hKY ▸ kx_exc _, u3, u1, hE1 _ _ qq⟩
    | cons s S'' h1 h2 h3 h4 =>
      have rd' : Rd l j err (.str s) (s :: S'') := .cons s S'' h1 h2 h3 h4
      have hsg := sg_cons rd'
      have hlen : 0 < s.length := List.length_pos_iff.mpr h2
      rw [List.flatten_cons, List.length_append] at hf hpos
      cases hs : sg l j with
      | none =>
        rw [hs] at hsg
        rw [← eg, show gu t res (s :: S'') err = none from by unfold gu; rw [if_pos hsg]] at q
        dsimp only at q ⊢
        have qq := q j (.str s) (nl rfl)
        rw [← eh] at qq
        exact hE1 _ _ qq
      | some je =>
        obtain ⟨j1, d1⟩ := je
        rw [hs] at hsg
        dsimp only at hsg ⊢
        have hns : ¬ (S'' = [] ∧ err = true) := fun h => by
          obtain ⟨rfl, rfl⟩ := h
          cases hsg
          simp_all
        have hp1 := hsg.posE
        have tk2 := tk1.upd j1 d1
        have eh2 := com (.dict (tokFs l j1 d1))
        generalize upd hp dx (.dict (tokFs l j1 d1)) = hp2 at tk2 eh2 ⊢
        ((try dsimp only); (with_reducible refine WXs_cons ?_))
        ((try dsimp only); (with_reducible refine WX_If ?_))
        ((try dsimp only); ((with_reducible refine WT_Compare (hm := ?hmz245) ?_); (case hmz245 => with_unfolding_all rfl)))
        ((try dsimp only); ((with_reducible refine W_local (d := ?dz246) (by assumption) ?hkz246 ?hlz246 ?qz246 ?hdz246); (case hkz246 => (have hh := In.scope ‹In _ _ _›; exact kindE hh (by kernel_rfl))); (case hlz246 => ((with_reducible exact lk_put_self))); (case hdz246 => decide +kernel); (try dsimp only)))
        ((try dsimp only); ((with_reducible refine W_none ?_); (try dsimp only)))
        refine o_isnone trivial (t_bool ?_)
        rw [if_neg (by simp [isN])]
        ((try dsimp only); ((with_reducible refine WXs_nil ?_); (try dsimp only)))
        ((try dsimp only); (with_reducible refine WXs_cons ?_))
        ((try dsimp only); (with_reducible refine WX_If ?_))
        ((try dsimp only); ((with_reducible refine WT_Compare (hm := ?hmz251) ?_); (case hmz251 => with_unfolding_all rfl)))
        ((try dsimp only); ((with_reducible refine W_local (d := ?dz252) (by assumption) ?hkz252 ?hlz252 ?qz252 ?hdz252); (case hkz252 => (have hh := In.scope ‹In _ _ _›; exact kindE hh (by kernel_rfl))); (case hlz252 => ((with_reducible exact lk_put_self))); (case hdz252 => decide +kernel); (try dsimp only)))
        ((try dsimp only); ((with_reducible refine W_local (d := ?dz253) (by assumption) ?hkz253 ?hlz253 ?qz253 ?hdz253); (case hkz253 => (have hh := In.scope ‹In _ _ _›; exact kindE hh (by kernel_rfl))); (case hlz253 => ((with_reducible refine lkp_skip ?hne2z253 ?hrest2z253); (case hne2z253 => decide +kernel); (with_reducible assumption))); (case hdz253 => decide +kernel); (try dsimp only)))
        refine o_eqs (t_bool ?_)
        by_cases hst : s = t
        · rw [if_pos (by simpa using hst)]
          have hgu : gu t res (s :: S'') err = (if res = [] then none else some (res, S'')) := by
            conv => lhs; unfold gu
            rw [if_neg hns, if_pos hst]
          rw [← eg, hgu] at q
          ((try dsimp only); (with_reducible refine WXs_cons ?_))
          refine WX_If ?_
          refine WT_Not ?_
          refine WT_value (he := by intro _ _; rfl) ?_
          ((try dsimp only); ((with_reducible refine W_local (d := ?dz255) (by assumption) ?hkz255 ?hlz255 ?qz255 ?hdz255); (case hkz255 => (have hh := In.scope ‹In _ _ _›; exact kindE hh (by kernel_rfl))); (case hlz255 => ((with_reducible refine lkp_skip ?hne2z255 ?hrest2z255); (case hne2z255 => decide +kernel); (with_reducible assumption))); (case hdz255 => decide +kernel); (try dsimp only)))
          refine t_str (by omega) ?_
          by_cases hr : res = []
          · rw [if_pos (by rw [hr]; rfl)]
            rw [if_pos hr] at q
            have qq := q j1 d1 hsg.lit
            rw [← eh2] at qq
            ((try dsimp only); (with_reducible refine WXs_cons ?_))
            refine WX_Raise okY hctx ?_
            refine W_Method (hbase := by intro _; rfl) (hfew := by intro _; rfl) (hline := by rfl) (hplain := by intro _; rfl) okY ?_
            ((try dsimp only); ((with_reducible refine W_local (d := ?dz257) (by assumption) ?hkz257 ?hlz257 ?qz257 ?hdz257); (case hkz257 => (have hh := In.scope ‹In _ _ _›; exact kindE hh (by kernel_rfl))); (case hlz257 => ((with_reducible refine lkp_skip ?hne2z257 ?hrest2z257); (case hne2z257 => decide +kernel); (with_reducible assumption))); (case hdz257 => decide +kernel); (try dsimp only)))
            refine getm_inst okY tk2.inst tk2.dict (hKY ▸ km_error _) (by kernel_rfl) ⟨keeps_fn hKY (by kernel_rfl), ?_⟩
            refine WA_cons ?_
            ((try dsimp only); (with_reducible refine W_BinOp ?_))
            refine W_str s_miss ?_
            ((try dsimp only); ((with_reducible refine W_local (d := ?dz259) (by assumption) ?hkz259 ?hlz259 ?qz259 ?hdz259); (case hkz259 => (have hh := In.scope ‹In _ _ _›; exact kindE hh (by kernel_rfl))); (case hlz259 => ((with_reducible refine lkp_skip ?hne2z259 ?hrest2z259); (case hne2z259 => decide +kernel); (with_reducible assumption))); (case hdz259 => decide +kernel); (try dsimp only)))
            refine o_adds (by simp; omega) ?_
            refine WA_cons ?_
            ((try dsimp only); ((with_reducible refine W_int ?_); (try dsimp only)))
            refine WA_nil ?_
            have hjl1 := hsg.le
            refine c_error (n := n) (o := 1) okY hKY hPY tk2 hsg.sgn (by simp; omega) hl (by omega) (by omega) fun ea d' hp' u1 u2 u3 => ?_
            exact ⟨ea, CP, some d', hp2, rfl, u2, hKY ▸ kx_exc _, u3, u1, hE1 _ _ qq⟩
          · rw [if_neg (by simpa using hr)]
            rw [if_neg hr] at q
            have qq := q j1 d1 hsg
            rw [← eh2] at qq
            ((try dsimp only); ((with_reducible refine WXs_nil ?_); (try dsimp only)))
            ((try dsimp only); (with_reducible refine WXs_cons ?_))
            refine WX_Break ?_
            refine hQ2 _ _ ?_
            ((try dsimp only); (with_reducible refine WXs_cons ?_))
            ((try dsimp only); (with_reducible refine WX_Return ?_))
            ((try dsimp only); ((with_reducible refine W_local (d := ?dz265) (by assumption) ?hkz265 ?hlz265 ?qz265 ?hdz265); (case hkz265 => (have hh := In.scope ‹In _ _ _›; exact kindE hh (by kernel_rfl))); (case hlz265 => ((with_reducible refine lkp_skip ?hne2z265 ?hrest2z265); (case hne2z265 => decide +kernel); (with_reducible assumption))); (case hdz265 => decide +kernel); (try dsimp only)))
            exact hQ1 _ _ qq
        · rw [if_neg (by simpa using hst)]
          ((try dsimp only); ((with_reducible refine WXs_nil ?_); (try dsimp only)))
          ((try dsimp only); (with_reducible refine WXs_cons ?_))
          ((try dsimp only); (with_reducible refine WX_Aug (d := ?dz268) (by assumption) ?hkz268 ?hlz268 ?_); (case hkz268 => (have hh := In.scope ‹In _ _ _›; exact kindE hh (by kernel_rfl))); (case hlz268 => ((with_reducible refine lkp_skip ?hne2z268 ?hrest2z268); (case hne2z268 => decide +kernel); (with_reducible assumption))))
          ((try dsimp only); ((with_reducible refine W_local (d := ?dz269) (by assumption) ?hkz269 ?hlz269 ?qz269 ?hdz269); (case hkz269 => (have hh := In.scope ‹In _ _ _›; exact kindE hh (by kernel_rfl))); (case hlz269 => ((with_reducible exact lk_put_self))); (case hdz269 => decide +kernel); (try dsimp only)))
          refine o_iadds (by omega) ?_
          ((try dsimp only); ((with_reducible refine WXs_nil ?_); (try dsimp only)))
          refine hQ2 _ _ ⟨S''.length, by simp, j1, d1, S'', res ++ s, rfl, hsg, ?_, by rw [List.length_append]; omega, eh2, by ((with_reducible refine lkp_skip ?hne3z271 ?hrest3z271); (case hne3z271 => decide +kernel); (with_reducible refine lkp_skip ?hne2z271 ?hrest2z271); (case hne2z271 => decide +kernel); (with_reducible assumption)), by ((with_reducible refine lkp_skip ?hne3z272 ?hrest3z272); (case hne3z272 => decide +kernel); (with_reducible refine lkp_skip ?hne2z272 ?hrest2z272); (case hne2z272 => decide +kernel); (with_reducible assumption)), by ((with_reducible refine lkp_skip ?hne3z273 ?hrest3z273); (case hne3z273 => decide +kernel); (with_reducible refine lkp_skip ?hne2z273 ?hrest2z273); (case hne2z273 => decide +kernel); (with_reducible assumption)), by ((with_reducible exact lk_put_self))⟩
          rw [← eg]
          conv => rhs; unfold gu
          rw [if_neg hns, if_neg hst]
  · exact (upd_same t2).symm
end Mine
namespace Mine
open PySem PySem.W
inductive SpL : List (List Nat) → List Nat → Prop
  | nil : SpL [] []
  | one {c : Nat} {C : List (List Nat)} {l : List Nat} (h1 : c ≠ 92) (h2 : c ≠ 40) (h3 : c < 128) (h4 : c ≠ 10) (r : SpL C l) : SpL ([c] :: C) (c :: l)
  | esc {c : Nat} {C : List (List Nat)} {l : List Nat} (h3 : c < 128) (h4 : c ≠ 10) (r : SpL C l) : SpL ([92, c] :: C) (c :: l)
theorem SpL.app {C D : List (List Nat)} {l m : List Nat} (x : SpL C l) (y : SpL D m) : SpL (C ++ D) (l ++ m) := by
  induction x with
  | nil => exact y
  | one h1 h2 h3 h4 r ih => exact .one h1 h2 h3 h4 ih
  | esc h3 h4 r ih => exact .esc h3 h4 ih
noncomputable def Fit (S : List (List Nat)) : Prop := ∀ s ∈ S, Gd s ∧ ∀ c ∈ s, c < 128 ∧ c ≠ 10
theorem Fit.app {S T : List (List Nat)} (x : Fit S) (y : Fit T) : Fit (S ++ T) := fun s hs => (List.mem_append.mp hs).elim (x s) (y s)
theorem SpL.fit {C : List (List Nat)} {l : List Nat} (x : SpL C l) : Fit C ∧ [40] ∉ C ∧ C.length = l.length ∧ C.flatten.length ≤ 2 * l.length ∧ ∀ c ∈ l, c < 128 := by
  induction x with
  | nil => exact ⟨fun s hs => (nomatch hs), (nomatch ·), rfl, Nat.le_refl _, fun c hc => (nomatch hc)⟩
  | @one c C l h1 h2 h3 h4 r ih =>
    obtain ⟨i1, i2, i3, i4, i5⟩ := ih
    refine ⟨fun s hs => (List.mem_cons.mp hs).elim (fun e => ?_) (i1 s), fun hm => ?_, by simp [i3], by rw [List.flatten_cons, List.length_append, List.length_cons]; simp only [List.length_cons, List.length_nil]; omega, fun d hd => (List.mem_cons.mp hd).elim (fun e => e ▸ h3) (i5 d)⟩
    · subst e; exact ⟨.inl ⟨c, h1, rfl⟩, fun d hd => List.mem_singleton.mp hd ▸ ⟨h3, h4⟩⟩
    · exact (List.mem_cons.mp hm).elim (fun e => h2 (by simpa using e.symm)) i2
  | @esc c C l h3 h4 r ih =>
    obtain ⟨i1, i2, i3, i4, i5⟩ := ih
    refine ⟨fun s hs => (List.mem_cons.mp hs).elim (fun e => ?_) (i1 s), fun hm => ?_, by simp [i3], by rw [List.flatten_cons, List.length_append, List.length_cons]; simp only [List.length_cons, List.length_nil]; omega, fun d hd => (List.mem_cons.mp hd).elim (fun e => e ▸ h3) (i5 d)⟩
    · subst e; exact ⟨.inr ⟨c, rfl⟩, fun d hd => (List.mem_cons.mp hd).elim (fun e => e ▸ ⟨by decide, by decide⟩) fun hd => List.mem_singleton.mp hd ▸ ⟨h3, h4⟩⟩
    · exact (List.mem_cons.mp hm).elim (fun e => by simp at e) i2
structure Nd where
  C : List (List Nat)
  lab : List Nat
  kids : List Nat
structure NdOk (nd : Nd) : Prop where
  sp : SpL nd.C nd.lab
  ne : nd.C ≠ []
  hd : nd.C.head? ≠ some [41]
  len : nd.lab.length ≤ 2
structure GN (nds : List Nd) : Prop where
  ok : ∀ nd ∈ nds, NdOk nd
  kids : ∀ k nd, nds[k]? = some nd → nd.kids.length ≤ 3 ∧ ∀ j ∈ nd.kids, k < j ∧ j < nds.length
noncomputable def wrs (f : Nat → List (List Nat)) : List Nat → List (List Nat)
  | [] => []
  | k :: r => f k ++ wrs f r
noncomputable def wrow (f : Nat → List (List Nat)) (g : Nat → Int → V) : List Nat → Int → List V
  | [], _ => []
  | k :: r, p => g k p :: wrow f g r (p + (f k).flatten.length)
noncomputable def ndAt (nds : List Nd) (k : Nat) : Nd := nds.getD k ⟨[], [], []⟩
noncomputable def wsg (nds : List Nd) : Nat → Nat → List (List Nat)
  | 0, _ => []
  | d + 1, k => (ndAt nds k).C ++ [40] :: (wrs (wsg nds d) (ndAt nds k).kids ++ [[41]])
noncomputable def wtr (nds : List Nd) : Nat → Nat → Int → V
  | 0, _, _ => .none
  | d + 1, k, p => .lst [.int p, .str (ndAt nds k).lab, .lst (wrow (wsg nds d) (wtr nds d) (ndAt nds k).kids (p + (((ndAt nds k).C.flatten.length + 1 : Nat) : Int)))]
theorem ndAt_of {nds : List Nd} {k : Nat} (h : k < nds.length) : nds[k]? = some (ndAt nds k) := by
  unfold ndAt; rw [List.getD_eq_getElem?_getD, List.getElem?_eq_getElem h]; rfl
theorem GN.at {nds : List Nd} (g : GN nds) {k : Nat} (h : k < nds.length) : NdOk (ndAt nds k) ∧ (ndAt nds k).kids.length ≤ 3 ∧ ∀ j ∈ (ndAt nds k).kids, k < j ∧ j < nds.length :=
  ⟨g.ok _ (List.mem_of_getElem? (ndAt_of h)), g.kids _ _ (ndAt_of h)⟩
noncomputable def pl (L : Int) (err : Bool) (S : List (List Nat)) : Int := L - S.flatten.length - (if err then 1 else 0)
theorem pl_app (L : Int) (err : Bool) (A B : List (List Nat)) : pl L err B = pl L err (A ++ B) + A.flatten.length := by
  unfold pl; rw [List.flatten_append, List.length_append]; omega
inductive RW (err : Bool) (P : List (List Nat) → Option (V × List (List Nat)) → Prop) : Nat → List (List Nat) → Option (List V × List (List Nat)) → Prop
  | done {m : Nat} {S : List (List Nat)} (h : ¬ (S = [] ∧ err = true)) : RW err P m ([41] :: S) (some ([], S))
  | stop {m : Nat} (h : err = true) : RW err P m [[41]] none
  | fail {m : Nat} {S : List (List Nat)} (h : S.head? ≠ some [41]) (r : P S none) : RW err P m S none
  | cons {m : Nat} {S S' : List (List Nat)} {t : V} {o : Option (List V × List (List Nat))} (h : S.head? ≠ some [41]) (r : P S (some (t, S'))) (hl : S'.flatten.length < S.flatten.length) (w : RW err P m S' o) : RW err P (m + 1) S (o.map fun p => (t :: p.1, p.2))
inductive ROs (L : Int) (err : Bool) (P : List (List Nat) → Option (V × List (List Nat)) → Prop) : List (List Nat) → Option (V × List (List Nat)) → Prop
  | bad {S : List (List Nat)} (h : gu [40] [] S err = none) : ROs L err P S none
  | go {C S1 : List (List Nat)} {lab : List Nat} {m : Nat} {o : Option (List V × List (List Nat))} (h : SpL C lab) (h1 : C ≠ []) (h2 : lab.length ≤ 2) (h3 : ¬ (S1 = [] ∧ err = true)) (w : RW err P m S1 o) :
      ROs L err P (C ++ [40] :: S1) (o.map fun p => (.lst [.int (pl L err (C ++ [40] :: S1)), .str lab, .lst p.1], p.2))
noncomputable def RO (L : Int) (err : Bool) : Nat → List (List Nat) → Option (V × List (List Nat)) → Prop
  | 0 => ROs L err fun _ _ => False
  | d + 1 => ROs L err (RO L err d)
theorem ro_bad {L : Int} {err : Bool} {S : List (List Nat)} (d : Nat) (h : gu [40] [] S err = none) : RO L err d S none := by
  cases d <;> exact .bad h
theorem gu_none (t : List Nat) : ∀ (S : List (List Nat)) (res : List Nat) (err : Bool), t ∉ S → gu t res S err = none
  | [], res, err, _ => by cases res <;> rfl
  | s :: S, res, err, h => by
    unfold gu
    split
    · rfl
    · rw [if_neg (fun e => h (by simp [e])), gu_none t S _ _ (fun e => h (by simp [e]))]
theorem gu_some (t : List Nat) (B : List (List Nat)) : ∀ (A : List (List Nat)) (res : List Nat) (err : Bool), t ∉ A → gu t res (A ++ t :: B) err = if B = [] ∧ err = true then none else if res ++ A.flatten = [] then none else some (res ++ A.flatten, B)
  | [], res, err, _ => by
    show gu t res (t :: B) err = _
    unfold gu
    simp
  | s :: A, res, err, h => by
    show gu t res (s :: (A ++ t :: B)) err = _
    unfold gu
    rw [if_neg (by simp), if_neg (fun e => h (by simp [e])), gu_some t B A _ _ (fun e => h (by simp [e]))]
    simp
theorem head_app {A B : List (List Nat)} (h : A ≠ []) : (A ++ B).head? = A.head? := by
  cases A with
  | nil => exact absurd rfl h
  | cons a A => rfl
theorem wsg_head {nds : List Nd} (g : GN nds) {d k : Nat} (h : k < nds.length) (hd : nds.length ≤ d + k) (R : List (List Nat)) : (wsg nds d k ++ R).head? ≠ some [41] := by
  cases d with
  | zero => omega
  | succ d =>
    have o := (g.at h).1
    show ((_ ++ _) ++ R).head? ≠ _
    rw [List.append_assoc, head_app o.ne]
    exact o.hd
theorem wsg_lt {nds : List Nd} {d k : Nat} (h : k < nds.length) (hd : nds.length ≤ d + k) (R : List (List Nat)) : R.flatten.length < (wsg nds d k ++ R).flatten.length := by
  obtain ⟨d, rfl⟩ : ∃ d', d = d' + 1 := ⟨d - 1, by omega⟩
  show R.flatten.length < (((ndAt nds k).C ++ [40] :: (wrs (wsg nds d) (ndAt nds k).kids ++ [[41]])) ++ R).flatten.length
  simp only [List.flatten_append, List.flatten_cons, List.length_append, List.length_cons, List.length_nil]
  omega
theorem ro_whole {nds : List Nd} (g : GN nds) (L : Int) (err : Bool) : ∀ (d k : Nat) (p : Int) (R : List (List Nat)), k < nds.length → nds.length ≤ d + k → ¬ (R = [] ∧ err = true) → p = pl L err (wsg nds d k ++ R) → RO L err d (wsg nds d k ++ R) (some (wtr nds d k p, R))
  | 0, k, p, R, h1, h2, _, _ => by omega
  | d + 1, k, p, R, h1, h2, h3, hp => by
    obtain ⟨o, _, hk⟩ := g.at h1
    have row : ∀ ks : List Nat, (∀ j ∈ ks, k < j ∧ j < nds.length) → ∀ q : Int, q = pl L err (wrs (wsg nds d) ks ++ [41] :: R) → RW err (RO L err d) ks.length (wrs (wsg nds d) ks ++ [41] :: R) (some (wrow (wsg nds d) (wtr nds d) ks q, R)) := by
      intro ks
      induction ks with
      | nil => intro _ q _; exact .done h3
      | cons j ks ih =>
        intro hj q hq
        obtain ⟨j1, j2⟩ := hj j (by simp)
        have hd : nds.length ≤ d + j := by omega
        show RW err _ _ ((wsg nds d j ++ wrs _ ks) ++ [41] :: R) _
        have hq' : q = pl L err (wsg nds d j ++ (wrs (wsg nds d) ks ++ [41] :: R)) := by rw [← List.append_assoc]; exact hq
        rw [List.append_assoc]
        exact RW.cons (o := some (wrow (wsg nds d) (wtr nds d) ks (q + (wsg nds d j).flatten.length), R)) (wsg_head g j2 hd _) (ro_whole g L err d j q _ j2 hd (by simp) hq') (wsg_lt j2 hd _) (ih (fun i hi => hj i (by simp [hi])) _ (by rw [hq']; exact (pl_app L err (wsg nds d j) _).symm))
    have e0 : wsg nds (d + 1) k ++ R = (ndAt nds k).C ++ [40] :: (wrs (wsg nds d) (ndAt nds k).kids ++ [41] :: R) := by simp [wsg]
    have e1 := pl_app L err ((ndAt nds k).C ++ [[40]]) (wrs (wsg nds d) (ndAt nds k).kids ++ [41] :: R)
    rw [List.append_assoc, List.singleton_append] at e1
    rw [e0] at hp ⊢
    have w := row (ndAt nds k).kids hk (p + (((ndAt nds k).C.flatten.length + 1 : Nat) : Int)) (by rw [e1, ← hp]; simp)
    have := ROs.go (L := L) o.sp o.ne o.len (S1 := wrs (wsg nds d) (ndAt nds k).kids ++ [41] :: R) (by simp) w
    rw [← hp] at this
    exact this
theorem pre_app {S A B : List (List Nat)} (h : S <+: A ++ B) : S <+: A ∨ ∃ T, S = A ++ T ∧ T <+: B := by
  obtain ⟨U, h⟩ := h
  rcases List.append_eq_append_iff.mp h with ⟨a, e, _⟩ | ⟨c, e, e2⟩
  · exact .inl ⟨a, e.symm⟩
  · exact .inr ⟨c, e, U, e2.symm⟩
theorem ro_pref {nds : List Nd} (g : GN nds) (L : Int) (err : Bool) : ∀ (d k : Nat) (S : List (List Nat)), k < nds.length → nds.length ≤ d + k → S <+: wsg nds d k → (S = wsg nds d k → err = true) → RO L err d S none
  | 0, k, S, h1, h2, _, _ => by omega
  | d + 1, k, S, h1, h2, h3, h4 => by
    obtain ⟨o, _, hk⟩ := g.at h1
    have no : [40] ∉ (ndAt nds k).C := o.sp.fit.2.1
    have row : ∀ ks : List Nat, (∀ j ∈ ks, k < j ∧ j < nds.length) → ∀ T, T <+: wrs (wsg nds d) ks ++ [[41]] → (T = wrs (wsg nds d) ks ++ [[41]] → err = true) → ∃ m, RW err (RO L err d) m T none := by
      intro ks
      induction ks with
      | nil =>
        intro _ T hT he
        rcases List.prefix_cons_iff.mp hT with rfl | ⟨T', rfl, hT'⟩
        · exact ⟨0, .fail (by simp) (ro_bad d (gu_none _ _ _ _ (by simp)))⟩
        · rw [List.prefix_nil.mp hT'] at he ⊢
          exact ⟨0, .stop (he rfl)⟩
      | cons j ks ih =>
        intro hj T hT he
        obtain ⟨j1, j2⟩ := hj j (by simp)
        have hd : nds.length ≤ d + j := by omega
        have e0 : wrs (wsg nds d) (j :: ks) ++ [[41]] = wsg nds d j ++ (wrs (wsg nds d) ks ++ [[41]]) := List.append_assoc ..
        rw [e0] at hT he
        by_cases hs : T <+: wsg nds d j ∧ (T = wsg nds d j → err = true)
        · refine ⟨0, .fail ?_ (ro_pref g L err d j T j2 hd hs.1 hs.2)⟩
          obtain ⟨U, hU⟩ := hs.1
          by_cases hn : T = []
          · rw [hn]; simp
          · have := wsg_head g j2 hd []
            rw [← hU, List.append_assoc, head_app hn] at this
            exact this
        · have : ∃ T2, T = wsg nds d j ++ T2 ∧ T2 <+: wrs (wsg nds d) ks ++ [[41]] ∧ ¬ (T2 = [] ∧ err = true) := by
            rcases pre_app hT with h | ⟨T2, rfl, h⟩
            · by_cases e : T = wsg nds d j
              · exact ⟨[], by rw [e]; simp, List.nil_prefix, fun z => hs ⟨h, fun _ => z.2⟩⟩
              · exact absurd ⟨h, fun z => absurd z e⟩ hs
            · exact ⟨T2, rfl, h, fun z => hs ⟨by rw [z.1]; simp, fun _ => z.2⟩⟩
          obtain ⟨T2, rfl, hT2, hne⟩ := this
          obtain ⟨m, hm⟩ := ih (fun i hi => hj i (by simp [hi])) T2 hT2 fun e => he (by rw [e])
          exact ⟨m + 1, .cons (wsg_head g j2 hd T2) (ro_whole g L err d j _ T2 j2 hd hne rfl) (wsg_lt j2 hd _) hm⟩
    have e0 : wsg nds (d + 1) k = (ndAt nds k).C ++ ([40] :: (wrs (wsg nds d) (ndAt nds k).kids ++ [[41]])) := rfl
    rw [e0] at h3 h4
    rcases pre_app h3 with h | ⟨T, rfl, hT⟩
    · exact ro_bad (d + 1) (gu_none _ _ _ _ fun hm => no (h.subset hm))
    · rcases List.prefix_cons_iff.mp hT with rfl | ⟨T', rfl, hT'⟩
      · exact ro_bad (d + 1) (gu_none _ _ _ _ (by simpa using no))
      · by_cases hb : T' = [] ∧ err = true
        · exact ro_bad (d + 1) (by rw [gu_some _ _ _ _ _ no, if_pos hb])
        · obtain ⟨m, hm⟩ := row (ndAt nds k).kids hk T' hT' fun e => h4 (by rw [e])
          exact .go o.sp o.ne o.len hb hm
inductive TrR (T : V → List V → Prop) : List V → List V → Prop
  | nil : TrR T [] []
  | cons {v : V} {vs l ls : List V} (h : T v l) (r : TrR T vs ls) : TrR T (v :: vs) (l ++ ls)
inductive TrS (T : V → List V → Prop) : V → List V → Prop
  | mk {a b : V} {row ls : List V} (ha : ∀ w, a ≠ .lit w) (r : TrR T row ls) : TrS T (.lst [a, b, .lst row]) (.lst [a, b, .lst row] :: ls)
noncomputable def NdT : Nat → V → List V → Prop
  | 0 => fun _ _ => False
  | d + 1 => TrS (NdT d)
noncomputable def nb : Nat → Nat
  | 0 => 0
  | d + 1 => 1 + 3 * nb d
inductive NodeAt (Sg : List (List Nat)) (u : V) : Prop
  | mk (pre S R : List (List Nat)) (rest : List V) (D : Nat) (hD : D ≤ 4) (e : Sg = pre ++ S) (hu : u = .lst (.int (pre.flatten.length : Nat) :: rest)) (ro : RO (Sg.flatten.length : Nat) false D S (some (u, R))) (sh : Shp u)
structure Pld (d : Nat) (v : V) : Prop where
  plain : V.plain v = true
  lay : v.dat.canLay0 = true
  depth : v.dat.depth ≤ 2 * d
theorem Pld.shp {d : Nat} {v : V} (x : Pld d v) (h : d ≤ 32) : Shp v := ⟨x.plain, by rw [x.lay, Bool.true_and, decide_eq_true_iff]; have := x.depth; omega⟩
theorem wtr_pld {nds : List Nd} (g : GN nds) : ∀ (d k : Nat) (p : Int), k < nds.length → nds.length ≤ d + k → Pld d (wtr nds d k p)
  | 0, k, p, h1, h2 => by omega
  | d + 1, k, p, h1, h2 => by
    obtain ⟨o, _, hk⟩ := g.at h1
    have row : ∀ ks : List Nat, (∀ j ∈ ks, k < j ∧ j < nds.length) → ∀ q, V.plains (wrow (wsg nds d) (wtr nds d) ks q) = true ∧ PyData.canLayAll0 (V.dats (wrow (wsg nds d) (wtr nds d) ks q)) = true ∧ PyData.depthAll (V.dats (wrow (wsg nds d) (wtr nds d) ks q)) ≤ 2 * d := by
      intro ks
      induction ks with
      | nil => intro _ q; exact ⟨rfl, rfl, Nat.zero_le _⟩
      | cons j ks ih =>
        intro hj q
        obtain ⟨j1, j2⟩ := hj j (by simp)
        obtain ⟨a, b, c⟩ := wtr_pld g d j q j2 (by omega)
        obtain ⟨a', b', c'⟩ := ih (fun i hi => hj i (by simp [hi])) (q + (wsg nds d j).flatten.length)
        refine ⟨?_, ?_, ?_⟩
        · show (_ && _) = true
          rw [a, a']; rfl
        · show (_ && _) = true
          rw [b, b']; rfl
        · show max _ _ ≤ _
          omega
    obtain ⟨a, b, c⟩ := row (ndAt nds k).kids hk (p + (((ndAt nds k).C.flatten.length + 1 : Nat) : Int))
    have st : PyData.strOk ⟨(ndAt nds k).lab.toArray⟩ = true := by
      have := o.sp.fit.2.2.2.2
      unfold PyData.strOk
      simp
      intro c hc
      have := this c hc
      omega
    refine ⟨?_, ?_, ?_⟩
    · show (true && (true && (V.plains _ && true))) = true
      rw [a]; rfl
    · show (true && (PyData.strOk _ && (PyData.canLayAll0 _ && true))) = true
      rw [st, b]; rfl
    · show max 0 (max 0 (max (PyData.depthAll _ + 1) 0)) + 1 ≤ _
      omega
theorem tr_all {nds : List Nd} (g : GN nds) (Sg : List (List Nat)) : ∀ (d k : Nat) (p : Int) (pre R : List (List Nat)), d ≤ 4 → k < nds.length → nds.length ≤ d + k → Sg = pre ++ (wsg nds d k ++ R) → p = (pre.flatten.length : Nat) → ∃ l, NdT d (wtr nds d k p) l ∧ l.length ≤ nb d ∧ ∀ u ∈ l, NodeAt Sg u
  | 0, k, p, pre, R, _, h1, h2, _, _ => by omega
  | d + 1, k, p, pre, R, h0, h1, h2, h3, hp => by
    obtain ⟨o, hk3, hk⟩ := g.at h1
    have row : ∀ ks : List Nat, (∀ j ∈ ks, k < j ∧ j < nds.length) → ∀ q pre R, Sg = pre ++ (wrs (wsg nds d) ks ++ R) → q = ((pre.flatten.length : Nat) : Int) → ∃ ls, TrR (NdT d) (wrow (wsg nds d) (wtr nds d) ks q) ls ∧ ls.length ≤ ks.length * nb d ∧ ∀ u ∈ ls, NodeAt Sg u := by
      intro ks
      induction ks with
      | nil => intro _ q pre R _ _; exact ⟨[], .nil, Nat.zero_le _, fun u hu => nomatch hu⟩
      | cons j ks ih =>
        intro hj q pre R hS hq
        obtain ⟨j1, j2⟩ := hj j (by simp)
        obtain ⟨l, a, b, c⟩ := tr_all g Sg d j q pre (wrs (wsg nds d) ks ++ R) (by omega) j2 (by omega) (by rw [hS]; simp [wrs]) hq
        obtain ⟨ls, a', b', c'⟩ := ih (fun i hi => hj i (by simp [hi])) (q + (wsg nds d j).flatten.length) (pre ++ wsg nds d j) R (by rw [hS]; simp [wrs]) (by rw [hq]; simp)
        refine ⟨l ++ ls, .cons a a', ?_, fun u hu => (List.mem_append.mp hu).elim (c u) (c' u)⟩
        rw [List.length_append, List.length_cons, Nat.succ_mul]; omega
    obtain ⟨ls, a, b, c⟩ := row (ndAt nds k).kids hk (p + (((ndAt nds k).C.flatten.length + 1 : Nat) : Int)) (pre ++ ((ndAt nds k).C ++ [[40]])) ([[41]] ++ R) (by rw [h3]; simp [wsg]) (by rw [hp]; simp)
    refine ⟨wtr nds (d + 1) k p :: ls, .mk (fun w e => nomatch e) a, ?_, fun u hu => ?_⟩
    · rw [List.length_cons]
      have := Nat.mul_le_mul_right (nb d) hk3
      show _ ≤ 1 + 3 * nb d
      omega
    · rcases List.mem_cons.mp hu with rfl | hu
      · refine ⟨pre, wsg nds (d + 1) k ++ R, R, _, d + 1, h0, h3, by rw [← hp]; rfl, ro_whole g _ false (d + 1) k p R h1 h2 (by simp) ?_, (wtr_pld g (d + 1) k p h1 h2).shp (by omega)⟩
        have e1 := pl_app (Sg.flatten.length : Nat) false pre (wsg nds (d + 1) k ++ R)
        rw [e1, ← h3, hp]
        unfold pl
        simp
      · exact c u hu
theorem rs_take : ∀ (S : List (List Nat)) (m : Nat), (∀ s ∈ S, Gd s) → (rs (S.flatten.take m)).1 <+: S
  | [], m, _ => by simp [rs]
  | s :: S, 0, _ => by simp [rs]
  | s :: S, m + 1, h => by
    rw [List.flatten_cons]
    rcases h s (by simp) with ⟨c, hc, rfl⟩ | ⟨c, rfl⟩
    · show (rs (c :: S.flatten.take m)).1 <+: _
      rw [rs_plain _ hc]
      exact (List.prefix_cons_inj _).mpr (rs_take S m fun s hs => h s (by simp [hs]))
    · cases m with
      | zero => show (rs [92]).1 <+: _; rw [rs_bs]; exact List.nil_prefix
      | succ m =>
        show (rs (92 :: c :: S.flatten.take m)).1 <+: _
        rw [rs_esc]
        exact (List.prefix_cons_inj _).mpr (rs_take S m fun s hs => h s (by simp [hs]))
theorem rs_short {S : List (List Nat)} {m : Nat} (h : ∀ s ∈ S, Gd s) (hm : m < S.flatten.length) : (rs (S.flatten.take m)).1 ≠ S := fun e => by
  have f := congrArg List.length (rs_flat (S.flatten.take m))
  rw [e, List.length_append, List.length_take] at f
  omega
noncomputable def bd : Nat → Nat
  | 0 => 0
  | d + 1 => 6 + 3 * bd d
theorem wsg_fit {nds : List Nd} (g : GN nds) : ∀ (d k : Nat), k < nds.length → nds.length ≤ d + k → Fit (wsg nds d k) ∧ (wsg nds d k).flatten.length ≤ bd d
  | 0, k, h1, h2 => by omega
  | d + 1, k, h1, h2 => by
    obtain ⟨o, hk3, hk⟩ := g.at h1
    have row : ∀ ks : List Nat, (∀ j ∈ ks, k < j ∧ j < nds.length) → Fit (wrs (wsg nds d) ks) ∧ (wrs (wsg nds d) ks).flatten.length ≤ ks.length * bd d := by
      intro ks
      induction ks with
      | nil => exact fun _ => ⟨(fun s hs => nomatch hs), Nat.zero_le _⟩
      | cons j ks ih =>
        intro hj
        obtain ⟨j1, j2⟩ := hj j (by simp)
        obtain ⟨a, b⟩ := wsg_fit g d j j2 (by omega)
        obtain ⟨a', b'⟩ := ih fun i hi => hj i (by simp [hi])
        refine ⟨a.app a', ?_⟩
        show (wsg nds d j ++ wrs (wsg nds d) ks).flatten.length ≤ _
        rw [List.flatten_append, List.length_append, List.length_cons, Nat.succ_mul]; omega
    obtain ⟨a, b⟩ := row (ndAt nds k).kids hk
    have one : ∀ c, c < 128 → c ≠ 10 → c ≠ 92 → Fit [[c]] := fun c h1 h2 h3 s hs => by
      rw [List.mem_singleton.mp hs]
      exact ⟨.inl ⟨c, h3, rfl⟩, fun d hd => List.mem_singleton.mp hd ▸ ⟨h1, h2⟩⟩
    obtain ⟨f1, _, _, f2, _⟩ := o.sp.fit
    refine ⟨f1.app ((one 40 (by decide) (by decide) (by decide)).app (a.app (one 41 (by decide) (by decide) (by decide)))), ?_⟩
    have := Nat.mul_le_mul_right (bd d) hk3
    have := o.len
    show ((ndAt nds k).C ++ [40] :: (wrs (wsg nds d) (ndAt nds k).kids ++ [[41]])).flatten.length ≤ 6 + 3 * bd d
    simp only [List.flatten_append, List.flatten_cons, List.length_append, List.length_cons, List.length_nil, List.flatten_nil]
    omega
end Mine
namespace Mine
open PySem PySem.W PySem.Calls PySem.Spec PyProof.Rows
theorem shp_par : Shp (.str [41]) := ⟨rfl, by decide +kernel⟩
theorem shp_non : Shp .none := ⟨rfl, by decide +kernel⟩
theorem s_rpar : (Str.ofString ")").cps.toList = [41] := by decide +kernel
theorem s_lpar : (Str.ofString "(").cps.toList = [40] := by decide +kernel
theorem c_match {pp : Params} {X : Cx} {n : Nat} {σ : S} {E : Value → S → Prop} {a dx : Addr} {l : List Nat} {i : Nat} {d : V} {err : Bool} {SS : List (List Nat)} {Q : V → S → Prop} (ok : Ok X (n + 3)) (hK : X.K = KK pp) (hP : X.prog = PySem.Challenge.rw_ij0062_02.row.prog) (hc : X.ctx = none) (tk : Tk σ.hp a dx l i d) (hl : l.length ≤ 1000) (rd : Rd l i err d SS)
    (q : if SS.head? = some [41] then (if SS.tail = [] ∧ err = true then E (.ref CP) σ else ∀ j e, Rd l j err e SS.tail → Q (.bool true) { σ with hp := upd σ.hp dx (.dict (tokFs l j e)) }) else Q (.bool false) σ) : Call X (.ref 72) [.ref a, .str [41]] σ Q E := by
  refine Call.fn' (names := ["self", "char"]) (loc0 := [("self", .ref a), ("char", .str [41])]) (n := n + 2) ok hK (f_match _) (bind2 fun v w _ => by kernel_rfl) (by kernel_rfl) (by decide +kernel) rfl rfl fun Y okY hI => ?_
  have hKY : Y.K = KK pp := hI.K.trans hK
  have t1 := tk.inst
  have t2 := tk.dict
  have hil := rd.le
  conv in bodyAt _ _ => whnf
  refine W.hide fun Q1 E1 hQ1 hE1 => ?_
  ((try dsimp only); (with_reducible refine WXs_cons ?_))
  ((try dsimp only); (with_reducible refine WX_If ?_))
  ((try dsimp only); ((with_reducible refine WT_Compare (hm := ?hmz277) ?_); (case hmz277 => with_unfolding_all rfl)))
  ((try dsimp only); ((with_reducible refine W_local (d := ?dz278) (by assumption) ?hkz278 ?hlz278 ?qz278 ?hdz278); (case hkz278 => (have hh := In.scope ‹In _ _ _›; exact kindE hh (by kernel_rfl))); (case hlz278 => ((with_reducible refine lk_skip ?hne2z278 ?hrest2z278); (case hne2z278 => decide +kernel); (with_reducible exact lk_hit))); (case hdz278 => decide +kernel); (try dsimp only)))
  refine W_field (by assumption) ?_ (by decide +kernel) (by ((with_reducible exact lk_hit))) t1 t2 (hKY ▸ kg_next _) (tok_next _ _ _) rd.lit ?_
  · (have hh := In.scope ‹In _ _ _›; exact kindE hh (by kernel_rfl))
  cases rd with
  | nil h1 h2 h3 =>
    rw [if_neg (by simp)] at q
    refine o_eqd okY shp_par shp_non (t_bool ?_)
    rw [if_neg (by simp [V.dat, PyData.eqv])]
    ((try dsimp only); ((with_reducible refine WXs_nil ?_); (try dsimp only)))
    ((try dsimp only); (with_reducible refine WXs_cons ?_))
    ((try dsimp only); (with_reducible refine WX_Return ?_))
    ((try dsimp only); ((with_reducible refine W_bool ?_); (try dsimp only)))
    exact hQ1 _ _ q
  | cons s S'' h1 h2 h3 h4 =>
    have rd' : Rd l i err (.str s) (s :: S'') := .cons s S'' h1 h2 h3 h4
    rw [List.head?_cons, List.tail_cons] at q
    refine o_eqs (t_bool ?_)
    by_cases hs : s = [41]
    · subst hs
      rw [if_pos rfl] at q
      rw [if_pos (by rfl)]
      ((try dsimp only); (with_reducible refine WXs_cons ?_))
      refine WX_Expr (hs := by intro _; rfl) okY ?_
      refine W_Method (hbase := by intro _; rfl) (hfew := by intro _; rfl) (hline := by rfl) (hplain := by intro _; rfl) okY ?_
      ((try dsimp only); ((with_reducible refine W_local (d := ?dz286) (by assumption) ?hkz286 ?hlz286 ?qz286 ?hdz286); (case hkz286 => (have hh := In.scope ‹In _ _ _›; exact kindE hh (by kernel_rfl))); (case hlz286 => ((with_reducible exact lk_hit))); (case hdz286 => decide +kernel); (try dsimp only)))
      refine getm_inst okY t1 t2 (hKY ▸ km_next _) (by kernel_rfl) ⟨keeps_fn hKY (by kernel_rfl), ?_⟩
      refine WA_nil ?_
      refine c_next' (n := n) okY hKY (hI.prog.trans hP) (hI.ctx.trans hc) tk hl (by omega) ?_
      have hsg := sg_cons rd'
      cases hg : sg l i with
      | none =>
        rw [hg] at hsg
        rw [if_pos hsg] at q
        exact hE1 _ _ q
      | some je =>
        obtain ⟨j, e⟩ := je
        rw [hg] at hsg
        dsimp only at hsg ⊢
        have hns : ¬ (S'' = [] ∧ err = true) := fun h => by
          obtain ⟨rfl, rfl⟩ := h
          cases hsg
          simp_all
        rw [if_neg hns] at q
        ((try dsimp only); (with_reducible refine WXs_cons ?_))
        ((try dsimp only); (with_reducible refine WX_Return ?_))
        ((try dsimp only); ((with_reducible refine W_bool ?_); (try dsimp only)))
        exact hQ1 _ _ (q j e hsg)
    · rw [if_neg (by simpa using hs)] at q
      rw [if_neg (by simpa using Ne.symm hs)]
      ((try dsimp only); ((with_reducible refine WXs_nil ?_); (try dsimp only)))
      ((try dsimp only); (with_reducible refine WXs_cons ?_))
      ((try dsimp only); (with_reducible refine WX_Return ?_))
      ((try dsimp only); ((with_reducible refine W_bool ?_); (try dsimp only)))
      exact hQ1 _ _ q
inductive SInv (lab : List Nat) (bits : Int) (hp : Addr → Option HO) (i : Nat) (σ' : S) : Prop
  | mk (C : List (List Nat)) (eh : σ'.hp = hp) (sp : SpL C (lab.take i)) (hh : C.head? ≠ some [41]) (es : lk σ'.loc "spelled" = some (.str C.flatten)) (eb : lk σ'.loc "bits" = some (.int bits))
theorem SInv.next {lab : List Nat} {C : List (List Nat)} {i c : Nat} {s : List Nat} (hi : lab[i]? = some c) (hc : c < 128 ∧ c ≠ 10) (sp : SpL C (lab.take i)) (hh : C.head? ≠ some [41]) (h : s = [92, c] ∨ (s = [c] ∧ c ≠ 40 ∧ c ≠ 92 ∧ ¬ (c = 41 ∧ i = 0))) : SpL (C ++ [s]) (lab.take (i + 1)) ∧ (C ++ [s]).head? ≠ some [41] := by
  have hlt := (List.getElem?_eq_some_iff.mp hi).1
  rw [List.take_add_one, hi]
  have hCl := sp.fit.2.2.1
  rw [List.length_take] at hCl
  refine ⟨sp.app ?_, ?_⟩
  · rcases h with rfl | ⟨rfl, h1, h2, _⟩
    · exact .esc hc.1 hc.2 .nil
    · exact .one h2 h1 hc.1 hc.2 .nil
  · cases C with
    | cons c' C => exact hh
    | nil =>
      rcases h with rfl | ⟨rfl, _, _, h3⟩
      · simp
      · intro e
        have e' : c = 41 := by simpa using e
        exact h3 ⟨e', by simp at hCl; omega⟩
theorem c_spelled {pp : Params} {X : Cx} {n : Nat} {σ : S} {E : Value → S → Prop} {lab : List Nat} {bits : Int} {Q : V → S → Prop} (ok : Ok X (n + 1)) (hK : X.K = KK pp) (hc : X.ctx = none) (h1 : ∀ c ∈ lab, c < 128 ∧ c ≠ 10) (h2 : lab.length ≤ 2)
    (q : ∀ C, SpL C lab → C.head? ≠ some [41] → Q (.str C.flatten) σ) : Call X (.ref 144) [.str lab, .int bits] σ Q E := by
  refine Call.fn' (names := ["label", "bits"]) (loc0 := [("label", .str lab), ("bits", .int bits)]) (n := n) ok hK (f_spelled _) (bind2 fun v w _ => by kernel_rfl) (by kernel_rfl) (by decide +kernel) rfl rfl fun Y okY hI => ?_
  have hKY : Y.K = KK pp := hI.K.trans hK
  have hcY : Y.ctx = none := hI.ctx.trans hc
  conv in bodyAt _ _ => whnf
  refine W.hide fun Q1 E1 hQ1 hE1 => ?_
  ((try dsimp only); (with_reducible refine WXs_cons ?_))
  ((try dsimp only); (with_reducible refine WX_Assign (hs := ?hsz295) (by assumption) ?hkz295 ?_); (case hsz295 => intro _; rfl); (case hkz295 => (have hh := In.scope ‹In _ _ _›; exact kindE hh (by kernel_rfl))))
  refine W_str s_e ?_
  ((try dsimp only); (with_reducible refine WXs_cons ?_))
  refine WX_ForT (hs := by intro _ _; rfl) okY hcY hI.env (by (have hh := In.scope ‹In _ _ _›; exact kindE hh (by kernel_rfl))) (by (have hh := In.scope ‹In _ _ _›; exact kindE hh (by kernel_rfl))) (SInv lab bits σ.hp) ?_
  refine wit_enum okY (KB.of hKY (by (have hh := In.scope ‹In _ _ _›; exact kindE hh (by kernel_rfl))) (b_enum _) (by kernel_rfl)) (fun _ => rfl) ?_
  refine WA_cons ?_
  ((try dsimp only); ((with_reducible refine W_local (d := ?dz300) (by assumption) ?hkz300 ?hlz300 ?qz300 ?hdz300); (case hkz300 => (have hh := In.scope ‹In _ _ _›; exact kindE hh (by kernel_rfl))); (case hlz300 => ((with_reducible refine lkp_skip ?hne2z300 ?hrest2z300); (case hne2z300 => decide +kernel); (with_reducible exact lk_hit))); (case hdz300 => decide +kernel); (try dsimp only)))
  refine WA_nil ⟨_, _, _, rfl, .str lab, ⟨[], rfl, .nil, by simp, lk_put_self, by ((with_reducible refine lkp_skip ?hne3z301 ?hrest3z301); (case hne3z301 => decide +kernel); (with_reducible refine lk_skip ?hne2z301 ?hrest2z301); (case hne2z301 => decide +kernel); (with_reducible exact lk_hit))⟩, fun i σ' wr hi inv okw => ?_, fun σ' inv => ?_⟩
  · obtain ⟨loc, hp⟩ := σ'
    obtain ⟨C, eh, sp, hh, es, eb⟩ := inv
    dsimp only at eh es eb
    subst eh
    have hci : lab[i]? = some (lab.getD i 0) := by rw [List.getD_eq_getElem?_getD, List.getElem?_eq_getElem hi]; rfl
    have hcl := h1 _ (List.mem_of_getElem? hci)
    generalize lab.getD i 0 = c at hci hcl ⊢
    have hfl := sp.fit.2.2.2.1
    rw [List.length_take] at hfl
    refine W.hideQ fun Q2 hQ2 => ?_
    ((try dsimp only); (with_reducible refine WXs_cons ?_))
    refine WX_If (W.mono (Q := fun b σ1 => σ1 = ⟨put (put loc "k" (.int i)) "letter" (.str [c]), σ.hp⟩ ∧ (b = false → c ≠ 40 ∧ c ≠ 92 ∧ ¬ (c = 41 ∧ i = 0))) ?_ (fun b σ1 hb => ?_) fun _ _ h => h)
    · refine WT_Or4 ?_
      ((try dsimp only); ((with_reducible refine WT_Compare (hm := ?hmz303) ?_); (case hmz303 => with_unfolding_all rfl)))
      ((try dsimp only); ((with_reducible refine W_local (d := ?dz304) (by assumption) ?hkz304 ?hlz304 ?qz304 ?hdz304); (case hkz304 => (have hh := In.scope ‹In _ _ _›; exact kindE hh (by kernel_rfl))); (case hlz304 => ((with_reducible exact lk_put_self))); (case hdz304 => decide +kernel); (try dsimp only)))
      refine W_str s_lpar ?_
      refine o_eqs (t_bool ?_)
      by_cases c1 : c = 40
      · rw [if_pos (by rw [c1]; rfl)]; exact ⟨rfl, fun h => nomatch h⟩
      rw [if_neg (by simpa using c1)]
      ((try dsimp only); ((with_reducible refine WT_Compare (hm := ?hmz305) ?_); (case hmz305 => with_unfolding_all rfl)))
      ((try dsimp only); ((with_reducible refine W_local (d := ?dz306) (by assumption) ?hkz306 ?hlz306 ?qz306 ?hdz306); (case hkz306 => (have hh := In.scope ‹In _ _ _›; exact kindE hh (by kernel_rfl))); (case hlz306 => ((with_reducible exact lk_put_self))); (case hdz306 => decide +kernel); (try dsimp only)))
      refine W_str s_bs ?_
      refine o_eqs (t_bool ?_)
      by_cases c2 : c = 92
      · rw [if_pos (by rw [c2]; rfl)]; exact ⟨rfl, fun h => nomatch h⟩
      rw [if_neg (by simpa using c2)]
      refine W.mono (Q := fun b σ1 => σ1 = ⟨put (put loc "k" (.int i)) "letter" (.str [c]), σ.hp⟩ ∧ (b = false → ¬ (c = 41 ∧ i = 0))) ?_ (fun b σ1 hb => ?_) fun _ _ h => h
      · refine WT_And2 ?_
        ((try dsimp only); ((with_reducible refine WT_Compare (hm := ?hmz307) ?_); (case hmz307 => with_unfolding_all rfl)))
        ((try dsimp only); ((with_reducible refine W_local (d := ?dz308) (by assumption) ?hkz308 ?hlz308 ?qz308 ?hdz308); (case hkz308 => (have hh := In.scope ‹In _ _ _›; exact kindE hh (by kernel_rfl))); (case hlz308 => ((with_reducible exact lk_put_self))); (case hdz308 => decide +kernel); (try dsimp only)))
        refine W_str s_rpar ?_
        refine o_eqs (t_bool ?_)
        by_cases c3 : c = 41
        · rw [if_pos (by rw [c3]; rfl)]
          ((try dsimp only); ((with_reducible refine WT_Compare (hm := ?hmz309) ?_); (case hmz309 => with_unfolding_all rfl)))
          ((try dsimp only); ((with_reducible refine W_local (d := ?dz310) (by assumption) ?hkz310 ?hlz310 ?qz310 ?hdz310); (case hkz310 => (have hh := In.scope ‹In _ _ _›; exact kindE hh (by kernel_rfl))); (case hlz310 => ((with_reducible refine lkp_skip ?hne2z310 ?hrest2z310); (case hne2z310 => decide +kernel); (with_reducible exact lk_put_self))); (case hdz310 => decide +kernel); (try dsimp only)))
          ((try dsimp only); ((with_reducible refine W_int ?_); (try dsimp only)))
          refine o_eqi (t_bool ⟨rfl, fun h => ?_⟩)
          simp at h
          exact fun z => h z.2
        · rw [if_neg (by simpa using c3)]
          exact ⟨rfl, fun _ z => c3 z.1⟩
      · obtain ⟨rfl, hb⟩ := hb
        cases b with
        | true => rw [if_pos rfl]; exact ⟨rfl, fun h => nomatch h⟩
        | false =>
          rw [if_neg (by decide)]
          ((try dsimp only); ((with_reducible refine WT_Compare (hm := ?hmz312) ?_); (case hmz312 => with_unfolding_all rfl)))
          ((try dsimp only); (with_reducible refine W_BinOp ?_))
          ((try dsimp only); (with_reducible refine W_BinOp ?_))
          ((try dsimp only); ((with_reducible refine W_local (d := ?dz315) (by assumption) ?hkz315 ?hlz315 ?qz315 ?hdz315); (case hkz315 => (have hh := In.scope ‹In _ _ _›; exact kindE hh (by kernel_rfl))); (case hlz315 => ((with_reducible refine lkp_skip ?hne3z315 ?hrest3z315); (case hne3z315 => decide +kernel); (with_reducible refine lkp_skip ?hne2z315 ?hrest2z315); (case hne2z315 => decide +kernel); (with_reducible assumption))); (case hdz315 => decide +kernel); (try dsimp only)))
          ((try dsimp only); (with_reducible refine W_BinOp ?_))
          ((try dsimp only); ((with_reducible refine W_int ?_); (try dsimp only)))
          ((try dsimp only); ((with_reducible refine W_local (d := ?dz318) (by assumption) ?hkz318 ?hlz318 ?qz318 ?hdz318); (case hkz318 => (have hh := In.scope ‹In _ _ _›; exact kindE hh (by kernel_rfl))); (case hlz318 => ((with_reducible refine lkp_skip ?hne2z318 ?hrest2z318); (case hne2z318 => decide +kernel); (with_reducible exact lk_put_self))); (case hdz318 => decide +kernel); (try dsimp only)))
          refine o_pow2 (by omega) ?_
          have hp2 : (2 : Int) ^ i ≤ 4 ∧ 0 < (2 : Int) ^ i := by
            have : i = 0 ∨ i = 1 := by omega
            rcases this with rfl | rfl <;> decide
          refine o_divi (by omega) (by omega) ?_
          ((try dsimp only); ((with_reducible refine W_int ?_); (try dsimp only)))
          refine o_modi (by decide) ?_
          ((try dsimp only); ((with_reducible refine W_int ?_); (try dsimp only)))
          exact o_eqi (t_bool ⟨rfl, fun _ => ⟨c1, c2, hb rfl⟩⟩)
    · obtain ⟨rfl, hb⟩ := hb
      cases b with
      | true =>
        rw [if_pos rfl]
        ((try dsimp only); (with_reducible refine WXs_cons ?_))
        ((try dsimp only); (with_reducible refine WX_Aug (d := ?dz322) (by assumption) ?hkz322 ?hlz322 ?_); (case hkz322 => (have hh := In.scope ‹In _ _ _›; exact kindE hh (by kernel_rfl))); (case hlz322 => ((with_reducible refine lkp_skip ?hne3z322 ?hrest3z322); (case hne3z322 => decide +kernel); (with_reducible refine lkp_skip ?hne2z322 ?hrest2z322); (case hne2z322 => decide +kernel); (with_reducible assumption))))
        refine W_str s_bs ?_
        refine o_iadds (by simp only [List.length_append, List.length_cons, List.length_nil]; omega) ?_
        ((try dsimp only); ((with_reducible refine WXs_nil ?_); (try dsimp only)))
        ((try dsimp only); (with_reducible refine WXs_cons ?_))
        ((try dsimp only); (with_reducible refine WX_Aug (d := ?dz325) (by assumption) ?hkz325 ?hlz325 ?_); (case hkz325 => (have hh := In.scope ‹In _ _ _›; exact kindE hh (by kernel_rfl))); (case hlz325 => ((with_reducible exact lk_put_self))))
        ((try dsimp only); ((with_reducible refine W_local (d := ?dz326) (by assumption) ?hkz326 ?hlz326 ?qz326 ?hdz326); (case hkz326 => (have hh := In.scope ‹In _ _ _›; exact kindE hh (by kernel_rfl))); (case hlz326 => ((with_reducible refine lkp_skip ?hne2z326 ?hrest2z326); (case hne2z326 => decide +kernel); (with_reducible exact lk_put_self))); (case hdz326 => decide +kernel); (try dsimp only)))
        refine o_iadds (by simp only [List.length_append, List.length_cons, List.length_nil]; omega) ?_
        ((try dsimp only); ((with_reducible refine WXs_nil ?_); (try dsimp only)))
        obtain ⟨sp', hh'⟩ := SInv.next hci hcl sp hh (.inl rfl)
        refine hQ2 _ _ ⟨_, rfl, sp', hh', ?_, by ((with_reducible refine lkp_skip ?hne5z328 ?hrest5z328); (case hne5z328 => decide +kernel); (with_reducible refine lkp_skip ?hne4z328 ?hrest4z328); (case hne4z328 => decide +kernel); (with_reducible refine lkp_skip ?hne3z328 ?hrest3z328); (case hne3z328 => decide +kernel); (with_reducible refine lkp_skip ?hne2z328 ?hrest2z328); (case hne2z328 => decide +kernel); (with_reducible assumption))⟩
        rw [List.flatten_append]
        show lk (put _ _ (V.str ((C.flatten ++ [92]) ++ [c]))) _ = _
        rw [List.append_assoc]
        exact lk_put_self
      | false =>
        rw [if_neg (by decide)]
        ((try dsimp only); ((with_reducible refine WXs_nil ?_); (try dsimp only)))
        ((try dsimp only); (with_reducible refine WXs_cons ?_))
        ((try dsimp only); (with_reducible refine WX_Aug (d := ?dz331) (by assumption) ?hkz331 ?hlz331 ?_); (case hkz331 => (have hh := In.scope ‹In _ _ _›; exact kindE hh (by kernel_rfl))); (case hlz331 => ((with_reducible refine lkp_skip ?hne3z331 ?hrest3z331); (case hne3z331 => decide +kernel); (with_reducible refine lkp_skip ?hne2z331 ?hrest2z331); (case hne2z331 => decide +kernel); (with_reducible assumption))))
        ((try dsimp only); ((with_reducible refine W_local (d := ?dz332) (by assumption) ?hkz332 ?hlz332 ?qz332 ?hdz332); (case hkz332 => (have hh := In.scope ‹In _ _ _›; exact kindE hh (by kernel_rfl))); (case hlz332 => ((with_reducible exact lk_put_self))); (case hdz332 => decide +kernel); (try dsimp only)))
        refine o_iadds (by simp only [List.length_append, List.length_cons, List.length_nil]; omega) ?_
        ((try dsimp only); ((with_reducible refine WXs_nil ?_); (try dsimp only)))
        obtain ⟨sp', hh'⟩ := SInv.next hci hcl sp hh (.inr ⟨rfl, hb rfl⟩)
        refine hQ2 _ _ ⟨_, rfl, sp', hh', ?_, by ((with_reducible refine lkp_skip ?hne4z334 ?hrest4z334); (case hne4z334 => decide +kernel); (with_reducible refine lkp_skip ?hne3z334 ?hrest3z334); (case hne3z334 => decide +kernel); (with_reducible refine lkp_skip ?hne2z334 ?hrest2z334); (case hne2z334 => decide +kernel); (with_reducible assumption))⟩
        rw [List.flatten_append]
        exact lk_put_self
  · obtain ⟨loc, hp⟩ := σ'
    obtain ⟨C, eh, sp, hh, es, eb⟩ := inv
    dsimp only at eh es eb
    subst eh
    ((try dsimp only); ((with_reducible refine WXs_nil ?_); (try dsimp only)))
    ((try dsimp only); (with_reducible refine WXs_cons ?_))
    ((try dsimp only); (with_reducible refine WX_Return ?_))
    ((try dsimp only); ((with_reducible refine W_local (d := ?dz338) (by assumption) ?hkz338 ?hlz338 ?qz338 ?hdz338); (case hkz338 => (have hh := In.scope ‹In _ _ _›; exact kindE hh (by kernel_rfl))); (case hlz338 => ((with_reducible assumption))); (case hdz338 => decide +kernel); (try dsimp only)))
    rw [List.take_length] at sp
    exact hQ1 _ _ (q C sp hh)
end Mine
namespace Mine
open PySem PySem.W PySem.Calls PySem.Spec PyProof.Rows
theorem fm (x : Int) {m : Nat} (h : 0 < m) : ∃ k : Nat, x.fmod m = k ∧ k < m := by
  have h1 := Int.fmod_nonneg_of_pos x (b := m) (by omega)
  have h2 := Int.fmod_lt_of_pos x (b := m) (by omega)
  exact ⟨(x.fmod m).toNat, by omega, by omega⟩
noncomputable def kidsV (nd : Nd) : List V := nd.kids.map fun k => .int (k : Nat)
noncomputable def ndV (nd : Nd) : V := .tup [.str nd.C.flatten, .str nd.lab, .lst (kidsV nd)]
noncomputable def ndR (p : Addr × Nd) : V := .tup [.str p.2.C.flatten, .str p.2.lab, .ref p.1]
noncomputable def withKid (p : Addr × Nd) (k : Nat) : Addr × Nd := (p.1, ⟨p.2.C, p.2.lab, p.2.kids ++ [k]⟩)
structure NR (hp0 hp : Addr → Option HO) (N : Addr) (ps : List (Addr × Nd)) : Prop where
  list : hp N = some (.lst (ps.map ndR))
  kid : ∀ (i : Nat) (p : Addr × Nd), ps[i]? = some p → hp p.1 = some (.lst (kidsV p.2)) ∧ p.1 ≠ N ∧ hp0 p.1 = none
  inj : ∀ (i j : Nat) (p q : Addr × Nd), ps[i]? = some p → ps[j]? = some q → p.1 = q.1 → i = j
  rest : ∀ b o, hp0 b = some o → hp b = some o
  new : hp0 N = none
theorem at_snoc {α : Type} {ps : List α} {x p : α} {i : Nat} (h : (ps ++ [x])[i]? = some p) : ps[i]? = some p ∨ (i = ps.length ∧ p = x) := by
  rw [List.getElem?_append] at h
  split at h
  · exact .inl h
  · rename_i hl
    have hi : i - ps.length = 0 := by
      have := (List.getElem?_eq_some_iff.mp h).1
      simp at this; omega
    rw [hi] at h
    have h' : x = p := by simpa using h
    exact .inr ⟨by omega, h'.symm⟩
theorem NR.push {hp0 hp : Addr → Option HO} {N a : Addr} {ps : List (Addr × Nd)} (r : NR hp0 hp N ps) (ha : hp a = none) {C : List (List Nat)} {lab : List Nat} : NR hp0 (upd (upd hp a (.lst [])) N (.lst (ps.map ndR ++ [ndR (a, ⟨C, lab, []⟩)]))) N (ps ++ [(a, ⟨C, lab, []⟩)]) := by
  have haN : a ≠ N := fun e => by rw [e, r.list] at ha; cases ha
  have ha0 : hp0 a = none := by
    cases e : hp0 a with
    | none => rfl
    | some o => rw [r.rest a o e] at ha; cases ha
  have hap : ∀ (i : Nat) (p : Addr × Nd), ps[i]? = some p → p.1 ≠ a := fun i p h e => by
    have := (r.kid i p h).1
    rw [e, ha] at this; cases this
  refine ⟨by rw [upd_self, List.map_append]; rfl, fun i p h => ?_, fun i j p q hi hj e => ?_, fun b o e => ?_, r.new⟩
  · rcases at_snoc h with h | ⟨_, rfl⟩
    · obtain ⟨k1, k2, k3⟩ := r.kid i p h
      exact ⟨by rw [upd_ne k2, upd_ne (hap i p h)]; exact k1, k2, k3⟩
    · exact ⟨by rw [upd_ne haN, upd_self]; rfl, haN, ha0⟩
  · rcases at_snoc hi with hi | ⟨ei, rfl⟩ <;> rcases at_snoc hj with hj | ⟨ej, rfl⟩
    · exact r.inj i j p q hi hj e
    · exact absurd e (hap i p hi)
    · exact absurd e.symm (hap j q hj)
    · rw [ei, ej]
  · rw [upd_ne (fun z => by rw [z, r.new] at e; cases e), upd_ne (fun z => by rw [z, ha0] at e; cases e)]
    exact r.rest b o e
theorem at_set {α : Type} {ps : List α} {x p : α} {i j : Nat} (h : (ps.set i x)[j]? = some p) : (i = j ∧ p = x) ∨ (i ≠ j ∧ ps[j]? = some p) := by
  rw [List.getElem?_set] at h
  split at h
  · rename_i e
    split at h
    · exact .inl ⟨e, by simpa using h.symm⟩
    · cases h
  · rename_i e
    exact .inr ⟨e, h⟩
theorem NR.grow {hp0 hp : Addr → Option HO} {N : Addr} {ps : List (Addr × Nd)} (r : NR hp0 hp N ps) {i : Nat} {p : Addr × Nd} (h : ps[i]? = some p) (k : Nat) : NR hp0 (upd hp p.1 (.lst (kidsV p.2 ++ [.int k]))) N (ps.set i (withKid p k)) := by
  obtain ⟨k1, k2, k3⟩ := r.kid i p h
  refine ⟨?_, fun j q hq => ?_, fun j1 j2 q1 q2 h1 h2 e => ?_, fun b o e => ?_, r.new⟩
  · rw [upd_ne k2.symm, r.list, List.map_set]
    congr 2
    refine (List.ext_getElem? fun j => ?_)
    rw [List.getElem?_set]
    split
    · rename_i e
      subst e
      rw [List.getElem?_map, h]
      have := (List.getElem?_eq_some_iff.mp h).1
      simp [this]; rfl
    · rfl
  · rcases at_set hq with ⟨_, rfl⟩ | ⟨ne, hq⟩
    · exact ⟨by show upd hp p.1 _ p.1 = _; rw [upd_self]; simp [kidsV, withKid], k2, k3⟩
    · obtain ⟨m1, m2, m3⟩ := r.kid j q hq
      exact ⟨by rw [upd_ne fun e => ne (r.inj i j p q h hq e.symm)]; exact m1, m2, m3⟩
  · rcases at_set h1 with ⟨rfl, rfl⟩ | ⟨n1, h1⟩ <;> rcases at_set h2 with ⟨rfl, rfl⟩ | ⟨n2, h2⟩
    · rfl
    · exact r.inj _ _ p q2 h h2 e
    · exact r.inj _ _ q1 p h1 h e
    · exact r.inj _ _ q1 q2 h1 h2 e
  · rw [upd_ne (fun z => by rw [z, k3] at e; cases e)]
    exact r.rest b o e
theorem NR.fz {hp0 hp : Addr → Option HO} {N : Addr} {ps : List (Addr × Nd)} (r : NR hp0 hp N ps) : FzD hp hp0 (.ref N) (.lst ((ps.map (·.2)).map ndV)) := by
  refine .own r.list r.new ?_
  have : ∀ qs : List (Addr × Nd), (∀ p ∈ qs, p ∈ ps) → FzDs hp hp0 (qs.map ndR) ((qs.map (·.2)).map ndV) := by
    intro qs
    induction qs with
    | nil => intro _; exact .nil
    | cons p qs ih =>
      intro h
      obtain ⟨i, hi⟩ := List.mem_iff_getElem?.mp (h p (by simp))
      obtain ⟨k1, k2, k3⟩ := r.kid i p hi
      refine .cons (.tup (.cons (.refl _) (.cons (.refl _) (.cons (.own k1 k3 (FzDs.refl _)) .nil)))) (ih fun q hq => h q (by simp [hq]))
  exact this ps fun p hp => hp
noncomputable def GI (ps : List (Addr × Nd)) : Prop := ∀ (k : Nat) (p : Addr × Nd), ps[k]? = some p → NdOk p.2 ∧ p.2.kids.length < ps.length ∧ ∀ j ∈ p.2.kids, k < j ∧ j < ps.length
theorem GI.push {ps : List (Addr × Nd)} (g : GI ps) {a : Addr} {C : List (List Nat)} {lab : List Nat} (h : NdOk ⟨C, lab, []⟩) : GI (ps ++ [(a, ⟨C, lab, []⟩)]) := fun k p hk => by
  rw [List.length_append, List.length_singleton]
  rcases at_snoc hk with hk | ⟨_, rfl⟩
  · obtain ⟨a, b, c⟩ := g k p hk
    exact ⟨a, by omega, fun j hj => by have := c j hj; omega⟩
  · exact ⟨h, by show 0 < _; omega, fun j hj => nomatch hj⟩
theorem GI.grow {ps : List (Addr × Nd)} (g : GI ps) {x p : Addr × Nd} (h : NdOk x.2) (hx : x.2.kids = []) {i : Nat} (hi : ps[i]? = some p) : GI ((ps ++ [x]).set i (withKid p ps.length)) := fun k q hq => by
  have hlt := (List.getElem?_eq_some_iff.mp hi).1
  rw [List.length_set, List.length_append, List.length_singleton]
  rcases at_set hq with ⟨rfl, rfl⟩ | ⟨_, hq⟩
  · obtain ⟨a, b, c⟩ := g i p hi
    refine ⟨⟨a.sp, a.ne, a.hd, a.len⟩, by show (p.2.kids ++ [ps.length]).length < _; rw [List.length_append, List.length_singleton]; omega, fun j hj => ?_⟩
    rcases List.mem_append.mp hj with hj | hj
    · have := c j hj; omega
    · rw [List.mem_singleton.mp hj]; omega
  · rcases at_snoc hq with hq | ⟨_, rfl⟩
    · obtain ⟨a, b, c⟩ := g k q hq
      exact ⟨a, by omega, fun j hj => by have := c j hj; omega⟩
    · exact ⟨h, by rw [hx]; show 0 < _; omega, fun j hj => by rw [hx] at hj; cases hj⟩
theorem GI.gn {ps : List (Addr × Nd)} (g : GI ps) (h : ps.length ≤ 4) : GN (ps.map (·.2)) := by
  refine ⟨fun nd hn => ?_, fun k nd hk => ?_⟩
  · obtain ⟨p, hp, rfl⟩ := List.mem_map.mp hn
    obtain ⟨i, hi⟩ := List.mem_iff_getElem?.mp hp
    exact (g i p hi).1
  · rw [List.getElem?_map] at hk
    obtain ⟨p, hp, rfl⟩ := Option.map_eq_some_iff.mp hk
    obtain ⟨_, a, b⟩ := g k p hp
    rw [List.length_map]
    exact ⟨by omega, b⟩
noncomputable def L4 : List Nat := [40, 41, 97, 92]
noncomputable def T5 : List (List Nat) := [[40], [41], [97], [92], []]
theorem s_L4 : (Str.ofString "()a\\").cps.toList = L4 := by decide +kernel
theorem s_a : (Str.ofString "a").cps.toList = [97] := by decide +kernel
inductive NInv (hp0 : Addr → Option HO) (N : Addr) (i : Nat) (σ' : S) : Prop
  | mk (ps : List (Addr × Nd)) (r : NR hp0 σ'.hp N ps) (g : GI ps) (e : ps.length = i) (en : lk σ'.loc "nodes" = some (.ref N))
theorem c_nodes {pp : Params} {X : Cx} {n : Nat} {σ : S} {E : Value → S → Prop} {xs : List Int} {Q : V → S → Prop} (ok : Ok X (n + 2)) (hK : X.K = KK pp) (hc : X.ctx = none) (hx : xs.length ≤ 4)
    (q : ∀ nds, GN nds → nds.length = xs.length → Q (.lst (nds.map ndV)) σ) : Call X (.ref 151) [.lst (xs.map .int)] σ Q E := by
  refine Call.fzD ?_
  refine Call.fn' (names := ["numbers"]) (loc0 := [("numbers", .lst (xs.map .int))]) (n := n + 1) ok hK (f_nodes _) (bind1 fun v _ => by kernel_rfl) (by kernel_rfl) (by decide +kernel) rfl rfl fun Y okY hI => ?_
  have hKY : Y.K = KK pp := hI.K.trans hK
  have hcY : Y.ctx = none := hI.ctx.trans hc
  conv in bodyAt _ _ => whnf
  refine W.hide fun Q1 E1 hQ1 hE1 => ?_
  ((try dsimp only); (with_reducible refine WXs_cons ?_))
  ((try dsimp only); (with_reducible refine WX_Assign (hs := ?hsz391) (by assumption) ?hkz391 ?_); (case hsz391 => intro _; rfl); (case hkz391 => (have hh := In.scope ‹In _ _ _›; exact kindE hh (by kernel_rfl))))
  refine W_ListO okY ?_
  refine WA_nil ⟨by simp, fun N hN => ?_⟩
  have hN' : σ.hp N = none := hN
  ((try dsimp only); (with_reducible refine WXs_cons ?_))
  refine WX_ForT (hs := by intro _ _; rfl) okY hcY hI.env (by (have hh := In.scope ‹In _ _ _›; exact kindE hh (by kernel_rfl))) (by (have hh := In.scope ‹In _ _ _›; exact kindE hh (by kernel_rfl))) (NInv σ.hp N) ?_
  refine wit_enum okY (KB.of hKY (by (have hh := In.scope ‹In _ _ _›; exact kindE hh (by kernel_rfl))) (b_enum _) (by kernel_rfl)) (fun _ => rfl) ?_
  refine WA_cons ?_
  ((try dsimp only); ((with_reducible refine W_local (d := ?dz396) (by assumption) ?hkz396 ?hlz396 ?qz396 ?hdz396); (case hkz396 => (have hh := In.scope ‹In _ _ _›; exact kindE hh (by kernel_rfl))); (case hlz396 => ((with_reducible refine lkp_skip ?hne2z396 ?hrest2z396); (case hne2z396 => decide +kernel); (with_reducible exact lk_hit))); (case hdz396 => decide +kernel); (try dsimp only)))
  refine WA_nil ⟨_, _, _, rfl, .lst _, ⟨[], ⟨upd_self, fun i p h => by simp at h, fun i j p q h => by simp at h, fun b o e => ?_, hN'⟩, fun k p h => by simp at h, rfl, by ((with_reducible exact lk_put_self))⟩, fun i σ' wr hi inv okw => ?_, fun σ' inv => ?_⟩
  · show upd σ.hp N _ b = _
    rw [upd_ne (fun z => by rw [z, hN'] at e; cases e)]; exact e
  · obtain ⟨loc, hp⟩ := σ'
    obtain ⟨ps, r, g, e, en⟩ := inv
    dsimp only at r en
    subst e
    rw [List.length_map] at hi
    have hpl : ps.length ≤ 3 := by omega
    rw [show (xs.map V.int).getD ps.length .none = .int (xs.getD ps.length 0) from by rw [List.getD_eq_getElem?_getD, List.getD_eq_getElem?_getD, List.getElem?_map, List.getElem?_eq_getElem hi]; rfl]
    generalize xs.getD ps.length 0 = x
    refine W.hideQ fun Q2 hQ2 => ?_
    ((try dsimp only); (with_reducible refine WXs_cons ?_))
    refine WX_AssignN okw hcY (.cons (by (have hh := In.scope ‹In _ _ _›; exact kindE hh (by kernel_rfl))) (.cons (by (have hh := In.scope ‹In _ _ _›; exact kindE hh (by kernel_rfl))) (.cons (by (have hh := In.scope ‹In _ _ _›; exact kindE hh (by kernel_rfl))) (.cons (by (have hh := In.scope ‹In _ _ _›; exact kindE hh (by kernel_rfl))) .nil)))) ?_ (fun _ => rfl) (fun _ => rfl)
    refine W_Tuple ?_
    refine WA_cons ?_
    ((try dsimp only); (with_reducible refine W_BinOp ?_))
    ((try dsimp only); ((with_reducible refine W_local (d := ?dz404) (by assumption) ?hkz404 ?hlz404 ?qz404 ?hdz404); (case hkz404 => (have hh := In.scope ‹In _ _ _›; exact kindE hh (by kernel_rfl))); (case hlz404 => ((with_reducible exact lk_put_self))); (case hdz404 => decide +kernel); (try dsimp only)))
    ((try dsimp only); ((with_reducible refine W_int ?_); (try dsimp only)))
    refine o_modi (by decide) ?_
    refine WA_cons ?_
    ((try dsimp only); (with_reducible refine W_BinOp ?_))
    ((try dsimp only); (with_reducible refine W_BinOp ?_))
    ((try dsimp only); ((with_reducible refine W_local (d := ?dz408) (by assumption) ?hkz408 ?hlz408 ?qz408 ?hdz408); (case hkz408 => (have hh := In.scope ‹In _ _ _›; exact kindE hh (by kernel_rfl))); (case hlz408 => ((with_reducible exact lk_put_self))); (case hdz408 => decide +kernel); (try dsimp only)))
    ((try dsimp only); ((with_reducible refine W_int ?_); (try dsimp only)))
    refine o_divi (by decide) (by decide) ?_
    ((try dsimp only); ((with_reducible refine W_int ?_); (try dsimp only)))
    refine o_modi (by decide) ?_
    refine WA_cons ?_
    ((try dsimp only); (with_reducible refine W_BinOp ?_))
    ((try dsimp only); (with_reducible refine W_BinOp ?_))
    ((try dsimp only); ((with_reducible refine W_local (d := ?dz413) (by assumption) ?hkz413 ?hlz413 ?qz413 ?hdz413); (case hkz413 => (have hh := In.scope ‹In _ _ _›; exact kindE hh (by kernel_rfl))); (case hlz413 => ((with_reducible exact lk_put_self))); (case hdz413 => decide +kernel); (try dsimp only)))
    ((try dsimp only); ((with_reducible refine W_int ?_); (try dsimp only)))
    refine o_divi (by decide) (by decide) ?_
    ((try dsimp only); ((with_reducible refine W_int ?_); (try dsimp only)))
    refine o_modi (by decide) ?_
    refine WA_cons ?_
    ((try dsimp only); (with_reducible refine W_BinOp ?_))
    ((try dsimp only); (with_reducible refine W_BinOp ?_))
    ((try dsimp only); ((with_reducible refine W_local (d := ?dz418) (by assumption) ?hkz418 ?hlz418 ?qz418 ?hdz418); (case hkz418 => (have hh := In.scope ‹In _ _ _›; exact kindE hh (by kernel_rfl))); (case hlz418 => ((with_reducible exact lk_put_self))); (case hdz418 => decide +kernel); (try dsimp only)))
    ((try dsimp only); ((with_reducible refine W_int ?_); (try dsimp only)))
    refine o_divi (by decide) (by decide) ?_
    ((try dsimp only); ((with_reducible refine W_int ?_); (try dsimp only)))
    refine o_modi (by decide) ?_
    refine WA_nil ⟨by simp, ⟨_, rfl, rfl, ?_⟩⟩
    obtain ⟨k1, e1, l1⟩ := fm x (m := 4) (by decide)
    obtain ⟨k2, e2, l2⟩ := fm (x.fdiv 4) (m := 5) (by decide)
    generalize (x.fdiv 20).fmod 4 = bits
    generalize (x.fdiv 80).fmod 12 = back
    rw [show x.fmod 4 = (k1 : Int) from e1, show (x.fdiv 4).fmod 5 = (k2 : Int) from e2]
    dsimp only [puts]
    obtain ⟨c1, hc1⟩ : ∃ c, L4[k1]? = some c := ⟨_, List.getElem?_eq_getElem l1⟩
    obtain ⟨t2, ht2⟩ : ∃ t, T5[k2]? = some t := ⟨_, List.getElem?_eq_getElem l2⟩
    ((try dsimp only); (with_reducible refine WXs_cons ?_))
    ((try dsimp only); (with_reducible refine WX_Assign (hs := ?hsz422) (by assumption) ?hkz422 ?_); (case hsz422 => intro _; rfl); (case hkz422 => (have hh := In.scope ‹In _ _ _›; exact kindE hh (by kernel_rfl))))
    ((try dsimp only); (with_reducible refine W_BinOp ?_))
    ((try dsimp only); (with_reducible refine W_Sub ?_))
    refine W_str s_L4 ?_
    ((try dsimp only); ((with_reducible refine W_local (d := ?dz425) (by assumption) ?hkz425 ?hlz425 ?qz425 ?hdz425); (case hkz425 => (have hh := In.scope ‹In _ _ _›; exact kindE hh (by kernel_rfl))); (case hlz425 => ((with_reducible refine lkp_skip ?hne4z425 ?hrest4z425); (case hne4z425 => decide +kernel); (with_reducible refine lkp_skip ?hne3z425 ?hrest3z425); (case hne3z425 => decide +kernel); (with_reducible refine lkp_skip ?hne2z425 ?hrest2z425); (case hne2z425 => decide +kernel); (with_reducible exact lk_put_self))); (case hdz425 => decide +kernel); (try dsimp only)))
    refine s_strItem (hs := by intro _ _ _ _; with_unfolding_all rfl) (ht := by intro _ _ _; with_unfolding_all rfl) okw hcY (by decide) (by omega) ?_
    rw [hc1]
    dsimp only
    ((try dsimp only); (with_reducible refine W_Sub ?_))
    refine W_Tuple ?_
    refine WA_cons (W_str s_lpar ?_)
    refine WA_cons (W_str s_rpar ?_)
    refine WA_cons (W_str s_a ?_)
    refine WA_cons (W_str s_bs ?_)
    refine WA_cons (W_str s_e ?_)
    refine WA_nil ⟨by simp, ?_⟩
    ((try dsimp only); ((with_reducible refine W_local (d := ?dz427) (by assumption) ?hkz427 ?hlz427 ?qz427 ?hdz427); (case hkz427 => (have hh := In.scope ‹In _ _ _›; exact kindE hh (by kernel_rfl))); (case hlz427 => ((with_reducible refine lkp_skip ?hne3z427 ?hrest3z427); (case hne3z427 => decide +kernel); (with_reducible refine lkp_skip ?hne2z427 ?hrest2z427); (case hne2z427 => decide +kernel); (with_reducible exact lk_put_self))); (case hdz427 => decide +kernel); (try dsimp only)))
    refine s_tupItem (hs := by intro _ _ _; with_unfolding_all rfl) (d := .str t2) (by omega) (by show (T5.map V.str)[k2]? = _; rw [List.getElem?_map, ht2]; rfl) ?_
    have m1 : c1 ∈ L4 := List.mem_of_getElem? hc1
    have m2 : t2 ∈ T5 := List.mem_of_getElem? ht2
    have ht2l : t2.length ≤ 1 ∧ ∀ c ∈ t2, c < 128 ∧ c ≠ 10 := (show ∀ t ∈ T5, t.length ≤ 1 ∧ ∀ c ∈ t, c < 128 ∧ c ≠ 10 by decide) t2 m2
    have hc1l : c1 < 128 ∧ c1 ≠ 10 := (show ∀ c ∈ L4, c < 128 ∧ c ≠ 10 by decide) c1 m1
    refine o_adds (by simp; omega) ?_
    have hlab : ∀ c ∈ [c1] ++ t2, c < 128 ∧ c ≠ 10 := fun c hc => (List.mem_append.mp hc).elim (fun h => List.mem_singleton.mp h ▸ hc1l) (ht2l.2 c)
    have hlen : ([c1] ++ t2).length ≤ 2 := by rw [List.length_append, List.length_singleton]; omega
    have hne : [c1] ++ t2 ≠ [] := by simp
    generalize [c1] ++ t2 = lab at hlab hlen hne ⊢
    ((try dsimp only); (with_reducible refine WXs_cons ?_))
    refine WX_Expr (hs := by intro _; rfl) okw ?_
    refine W_Method (hbase := by intro _; rfl) (hfew := by intro _; rfl) (hline := by rfl) (hplain := by intro _; rfl) okw ?_
    ((try dsimp only); ((with_reducible refine W_local (d := ?dz429) (by assumption) ?hkz429 ?hlz429 ?qz429 ?hdz429); (case hkz429 => (have hh := In.scope ‹In _ _ _›; exact kindE hh (by kernel_rfl))); (case hlz429 => ((with_reducible refine lkp_skip ?hne8z429 ?hrest8z429); (case hne8z429 => decide +kernel); (with_reducible refine lkp_skip ?hne7z429 ?hrest7z429); (case hne7z429 => decide +kernel); (with_reducible refine lkp_skip ?hne6z429 ?hrest6z429); (case hne6z429 => decide +kernel); (with_reducible refine lkp_skip ?hne5z429 ?hrest5z429); (case hne5z429 => decide +kernel); (with_reducible refine lkp_skip ?hne4z429 ?hrest4z429); (case hne4z429 => decide +kernel); (with_reducible refine lkp_skip ?hne3z429 ?hrest3z429); (case hne3z429 => decide +kernel); (with_reducible refine lkp_skip ?hne2z429 ?hrest2z429); (case hne2z429 => decide +kernel); (with_reducible assumption))); (case hdz429 => decide +kernel); (try dsimp only)))
    refine gm_append (ds := ps.map ndR) r.list ⟨keeps_builtin, ?_⟩
    refine WA_cons ?_
    refine W_Tuple ?_
    refine WA_cons ?_
    refine W_Call (hplain := by intro _; rfl) okw ?_
    refine W_gl okw hKY (by (have hh := In.scope ‹In _ _ _›; exact kindE hh (by kernel_rfl))) (g_spelled _) (by decide +kernel) ?_
    refine ⟨_, rfl, keeps_fn hKY (by kernel_rfl), ?_⟩
    refine WA_cons ?_
    ((try dsimp only); ((with_reducible refine W_local (d := ?dz431) (by assumption) ?hkz431 ?hlz431 ?qz431 ?hdz431); (case hkz431 => (have hh := In.scope ‹In _ _ _›; exact kindE hh (by kernel_rfl))); (case hlz431 => ((with_reducible exact lk_put_self))); (case hdz431 => decide +kernel); (try dsimp only)))
    refine WA_cons ?_
    ((try dsimp only); ((with_reducible refine W_local (d := ?dz432) (by assumption) ?hkz432 ?hlz432 ?qz432 ?hdz432); (case hkz432 => (have hh := In.scope ‹In _ _ _›; exact kindE hh (by kernel_rfl))); (case hlz432 => ((with_reducible refine lkp_skip ?hne3z432 ?hrest3z432); (case hne3z432 => decide +kernel); (with_reducible refine lkp_skip ?hne2z432 ?hrest2z432); (case hne2z432 => decide +kernel); (with_reducible exact lk_put_self))); (case hdz432 => decide +kernel); (try dsimp only)))
    refine WA_nil ?_
    refine c_spelled (n := n) okw hKY hcY hlab hlen fun C sp hh => ?_
    have nok : NdOk ⟨C, lab, []⟩ := ⟨sp, fun (e : C = []) => hne (List.length_eq_zero_iff.mp (by rw [← sp.fit.2.2.1, e]; rfl)), hh, hlen⟩
    refine WA_cons ?_
    ((try dsimp only); ((with_reducible refine W_local (d := ?dz433) (by assumption) ?hkz433 ?hlz433 ?qz433 ?hdz433); (case hkz433 => (have hh := In.scope ‹In _ _ _›; exact kindE hh (by kernel_rfl))); (case hlz433 => ((with_reducible exact lk_put_self))); (case hdz433 => decide +kernel); (try dsimp only)))
    refine WA_cons ?_
    refine W_ListO okw ?_
    refine WA_nil ⟨by simp, fun a ha => ?_⟩
    refine WA_nil ⟨by simp, ?_⟩
    refine WA_nil ?_
    have ha' : hp a = none := ha
    have haN : N ≠ a := fun e => by rw [← e, r.list] at ha'; cases ha'
    refine c_append (ds := ps.map ndR) okw (by show upd hp a _ N = _; rw [upd_ne haN]; exact r.list) (by rw [List.length_map]; omega) ?_
    have r1 : NR σ.hp (upd (upd hp a (.lst [])) N (.lst (ps.map ndR ++ [.tup [.str C.flatten, .str lab, .ref a]]))) N (ps ++ [(a, ⟨C, lab, []⟩)]) := r.push ha'
    dsimp only
    generalize upd (upd hp a (.lst [])) N (.lst (ps.map ndR ++ [.tup [.str C.flatten, .str lab, .ref a]])) = hp1 at r1 ⊢
    ((try dsimp only); (with_reducible refine WXs_cons ?_))
    ((try dsimp only); (with_reducible refine WX_If ?_))
    ((try dsimp only); ((with_reducible refine WT_Compare (hm := ?hmz436) ?_); (case hmz436 => with_unfolding_all rfl)))
    ((try dsimp only); ((with_reducible refine W_local (d := ?dz437) (by assumption) ?hkz437 ?hlz437 ?qz437 ?hdz437); (case hkz437 => (have hh := In.scope ‹In _ _ _›; exact kindE hh (by kernel_rfl))); (case hlz437 => ((with_reducible refine lkp_skip ?hne7z437 ?hrest7z437); (case hne7z437 => decide +kernel); (with_reducible refine lkp_skip ?hne6z437 ?hrest6z437); (case hne6z437 => decide +kernel); (with_reducible refine lkp_skip ?hne5z437 ?hrest5z437); (case hne5z437 => decide +kernel); (with_reducible refine lkp_skip ?hne4z437 ?hrest4z437); (case hne4z437 => decide +kernel); (with_reducible refine lkp_skip ?hne3z437 ?hrest3z437); (case hne3z437 => decide +kernel); (with_reducible refine lkp_skip ?hne2z437 ?hrest2z437); (case hne2z437 => decide +kernel); (with_reducible exact lk_put_self))); (case hdz437 => decide +kernel); (try dsimp only)))
    ((try dsimp only); ((with_reducible refine W_int ?_); (try dsimp only)))
    refine o_gti (t_bool ?_)
    by_cases h0 : ps.length = 0
    · rw [if_neg (by simp only [decide_eq_true_eq]; omega)]
      ((try dsimp only); ((with_reducible refine WXs_nil ?_); (try dsimp only)))
      ((try dsimp only); ((with_reducible refine WXs_nil ?_); (try dsimp only)))
      exact hQ2 _ _ ⟨_, r1, g.push nok, by rw [List.length_append]; rfl, by ((with_reducible refine lkp_skip ?hne8z441 ?hrest8z441); (case hne8z441 => decide +kernel); (with_reducible refine lkp_skip ?hne7z441 ?hrest7z441); (case hne7z441 => decide +kernel); (with_reducible refine lkp_skip ?hne6z441 ?hrest6z441); (case hne6z441 => decide +kernel); (with_reducible refine lkp_skip ?hne5z441 ?hrest5z441); (case hne5z441 => decide +kernel); (with_reducible refine lkp_skip ?hne4z441 ?hrest4z441); (case hne4z441 => decide +kernel); (with_reducible refine lkp_skip ?hne3z441 ?hrest3z441); (case hne3z441 => decide +kernel); (with_reducible refine lkp_skip ?hne2z441 ?hrest2z441); (case hne2z441 => decide +kernel); (with_reducible assumption))⟩
    · rw [if_pos (by simp only [decide_eq_true_eq]; omega)]
      obtain ⟨k3, e3, l3⟩ := fm back (m := ps.length) (by omega)
      have hm : ps.length - 1 - k3 < ps.length := by omega
      obtain ⟨p, hp⟩ : ∃ p, ps[ps.length - 1 - k3]? = some p := ⟨_, List.getElem?_eq_getElem hm⟩
      have hp1 : (ps ++ [(a, ⟨C, lab, []⟩)])[ps.length - 1 - k3]? = some p := by rw [List.getElem?_append_left hm]; exact hp
      have r2 := r1.grow hp1 ps.length
      have g2 := g.grow (x := (a, ⟨C, lab, []⟩)) nok rfl hp
      obtain ⟨q1, q2, q3⟩ := r1.kid _ _ hp1
      have hkl := (g _ _ hp).2.1
      ((try dsimp only); (with_reducible refine WXs_cons ?_))
      refine WX_Expr (hs := by intro _; rfl) okw ?_
      refine W_Method (hbase := by intro _; rfl) (hfew := by intro _; rfl) (hline := by rfl) (hplain := by intro _; rfl) okw ?_
      refine W_Sub ?_
      refine W_Sub ?_
      ((try dsimp only); ((with_reducible refine W_local (d := ?dz443) (by assumption) ?hkz443 ?hlz443 ?qz443 ?hdz443); (case hkz443 => (have hh := In.scope ‹In _ _ _›; exact kindE hh (by kernel_rfl))); (case hlz443 => ((with_reducible refine lkp_skip ?hne8z443 ?hrest8z443); (case hne8z443 => decide +kernel); (with_reducible refine lkp_skip ?hne7z443 ?hrest7z443); (case hne7z443 => decide +kernel); (with_reducible refine lkp_skip ?hne6z443 ?hrest6z443); (case hne6z443 => decide +kernel); (with_reducible refine lkp_skip ?hne5z443 ?hrest5z443); (case hne5z443 => decide +kernel); (with_reducible refine lkp_skip ?hne4z443 ?hrest4z443); (case hne4z443 => decide +kernel); (with_reducible refine lkp_skip ?hne3z443 ?hrest3z443); (case hne3z443 => decide +kernel); (with_reducible refine lkp_skip ?hne2z443 ?hrest2z443); (case hne2z443 => decide +kernel); (with_reducible assumption))); (case hdz443 => decide +kernel); (try dsimp only)))
      ((try dsimp only); (with_reducible refine W_BinOp ?_))
      ((try dsimp only); (with_reducible refine W_BinOp ?_))
      ((try dsimp only); ((with_reducible refine W_local (d := ?dz446) (by assumption) ?hkz446 ?hlz446 ?qz446 ?hdz446); (case hkz446 => (have hh := In.scope ‹In _ _ _›; exact kindE hh (by kernel_rfl))); (case hlz446 => ((with_reducible refine lkp_skip ?hne7z446 ?hrest7z446); (case hne7z446 => decide +kernel); (with_reducible refine lkp_skip ?hne6z446 ?hrest6z446); (case hne6z446 => decide +kernel); (with_reducible refine lkp_skip ?hne5z446 ?hrest5z446); (case hne5z446 => decide +kernel); (with_reducible refine lkp_skip ?hne4z446 ?hrest4z446); (case hne4z446 => decide +kernel); (with_reducible refine lkp_skip ?hne3z446 ?hrest3z446); (case hne3z446 => decide +kernel); (with_reducible refine lkp_skip ?hne2z446 ?hrest2z446); (case hne2z446 => decide +kernel); (with_reducible exact lk_put_self))); (case hdz446 => decide +kernel); (try dsimp only)))
      ((try dsimp only); ((with_reducible refine W_int ?_); (try dsimp only)))
      refine o_subi ?_
      ((try dsimp only); (with_reducible refine W_BinOp ?_))
      ((try dsimp only); ((with_reducible refine W_local (d := ?dz449) (by assumption) ?hkz449 ?hlz449 ?qz449 ?hdz449); (case hkz449 => (have hh := In.scope ‹In _ _ _›; exact kindE hh (by kernel_rfl))); (case hlz449 => ((with_reducible refine lkp_skip ?hne2z449 ?hrest2z449); (case hne2z449 => decide +kernel); (with_reducible exact lk_put_self))); (case hdz449 => decide +kernel); (try dsimp only)))
      ((try dsimp only); ((with_reducible refine W_local (d := ?dz450) (by assumption) ?hkz450 ?hlz450 ?qz450 ?hdz450); (case hkz450 => (have hh := In.scope ‹In _ _ _›; exact kindE hh (by kernel_rfl))); (case hlz450 => ((with_reducible refine lkp_skip ?hne7z450 ?hrest7z450); (case hne7z450 => decide +kernel); (with_reducible refine lkp_skip ?hne6z450 ?hrest6z450); (case hne6z450 => decide +kernel); (with_reducible refine lkp_skip ?hne5z450 ?hrest5z450); (case hne5z450 => decide +kernel); (with_reducible refine lkp_skip ?hne4z450 ?hrest4z450); (case hne4z450 => decide +kernel); (with_reducible refine lkp_skip ?hne3z450 ?hrest3z450); (case hne3z450 => decide +kernel); (with_reducible refine lkp_skip ?hne2z450 ?hrest2z450); (case hne2z450 => decide +kernel); (with_reducible exact lk_put_self))); (case hdz450 => decide +kernel); (try dsimp only)))
      refine o_modi (by omega) ?_
      rw [show back.fmod (ps.length : Int) = (k3 : Int) from e3]
      refine o_subi ?_
      rw [show ((ps.length : Int) - 1 - (k3 : Int)) = ((ps.length - 1 - k3 : Nat) : Int) from by omega]
      refine s_lstItem (hs := by intro _ _ _; with_unfolding_all rfl) (.own _ _ r1.list) (by omega) (by rw [List.getElem?_map, hp1]; rfl) ?_
      ((try dsimp only); ((with_reducible refine W_int ?_); (try dsimp only)))
      refine s_tupItem (hs := by intro _ _ _; with_unfolding_all rfl) (k := 2) (by decide) rfl ?_
      refine gm_append q1 ⟨keeps_builtin, ?_⟩
      refine WA_cons ?_
      ((try dsimp only); ((with_reducible refine W_local (d := ?dz452) (by assumption) ?hkz452 ?hlz452 ?qz452 ?hdz452); (case hkz452 => (have hh := In.scope ‹In _ _ _›; exact kindE hh (by kernel_rfl))); (case hlz452 => ((with_reducible refine lkp_skip ?hne7z452 ?hrest7z452); (case hne7z452 => decide +kernel); (with_reducible refine lkp_skip ?hne6z452 ?hrest6z452); (case hne6z452 => decide +kernel); (with_reducible refine lkp_skip ?hne5z452 ?hrest5z452); (case hne5z452 => decide +kernel); (with_reducible refine lkp_skip ?hne4z452 ?hrest4z452); (case hne4z452 => decide +kernel); (with_reducible refine lkp_skip ?hne3z452 ?hrest3z452); (case hne3z452 => decide +kernel); (with_reducible refine lkp_skip ?hne2z452 ?hrest2z452); (case hne2z452 => decide +kernel); (with_reducible exact lk_put_self))); (case hdz452 => decide +kernel); (try dsimp only)))
      refine WA_nil ?_
      refine c_append okw q1 (by unfold kidsV; rw [List.length_map]; omega) ?_
      ((try dsimp only); ((with_reducible refine WXs_nil ?_); (try dsimp only)))
      ((try dsimp only); ((with_reducible refine WXs_nil ?_); (try dsimp only)))
      exact hQ2 _ _ ⟨_, r2, g2, by rw [List.length_set, List.length_append]; rfl, by ((with_reducible refine lkp_skip ?hne8z455 ?hrest8z455); (case hne8z455 => decide +kernel); (with_reducible refine lkp_skip ?hne7z455 ?hrest7z455); (case hne7z455 => decide +kernel); (with_reducible refine lkp_skip ?hne6z455 ?hrest6z455); (case hne6z455 => decide +kernel); (with_reducible refine lkp_skip ?hne5z455 ?hrest5z455); (case hne5z455 => decide +kernel); (with_reducible refine lkp_skip ?hne4z455 ?hrest4z455); (case hne4z455 => decide +kernel); (with_reducible refine lkp_skip ?hne3z455 ?hrest3z455); (case hne3z455 => decide +kernel); (with_reducible refine lkp_skip ?hne2z455 ?hrest2z455); (case hne2z455 => decide +kernel); (with_reducible assumption))⟩
  · obtain ⟨loc, hp⟩ := σ'
    obtain ⟨ps, r, g, e, en⟩ := inv
    dsimp only at r en
    rw [List.length_map] at e
    ((try dsimp only); ((with_reducible refine WXs_nil ?_); (try dsimp only)))
    ((try dsimp only); (with_reducible refine WXs_cons ?_))
    ((try dsimp only); (with_reducible refine WX_Return ?_))
    ((try dsimp only); ((with_reducible refine W_local (d := ?dz459) (by assumption) ?hkz459 ?hlz459 ?qz459 ?hdz459); (case hkz459 => (have hh := In.scope ‹In _ _ _›; exact kindE hh (by kernel_rfl))); (case hlz459 => ((with_reducible assumption))); (case hdz459 => decide +kernel); (try dsimp only)))
    exact hQ1 _ _ ⟨σ.hp, _, r.rest, r.fz, q _ (g.gn (by omega)) (by rw [List.length_map]; exact e)⟩
end Mine
namespace Mine
open PySem PySem.W PySem.Calls PySem.Spec PyProof.Rows
theorem wrow_len (f : Nat → List (List Nat)) (g : Nat → Int → V) : ∀ (ks : List Nat) (p : Int), (wrow f g ks p).length = ks.length
  | [], _ => rfl
  | k :: r, p => by show _ + 1 = _ + 1; rw [wrow_len f g r]
inductive TInv (f : Nat → List (List Nat)) (g : Nat → Int → V) (nds : List Nd) (lab T0 : List Nat) (ks : List Nat) (p : Int) (hp : Addr → Option HO) (b : Addr) (i : Nat) (σ' : S) : Prop
  | mk (T : List Nat) (R : List V) (eh : σ'.hp = upd hp b (.lst R)) (hT : T ++ (wrs f (ks.drop i)).flatten = T0 ++ (wrs f ks).flatten) (hR : R ++ wrow f g (ks.drop i) (p + (T.length : Nat)) = wrow f g ks (p + (T0.length : Nat)))
    (e1 : lk σ'.loc "nodes" = some (.lst (nds.map ndV))) (e2 : lk σ'.loc "place" = some (.int p)) (e3 : lk σ'.loc "label" = some (.str lab)) (e4 : lk σ'.loc "text" = some (.str T)) (e5 : lk σ'.loc "row" = some (.ref b))
theorem bd_le (d : Nat) (h : d ≤ 4) : bd d ≤ 240 := by
  have : d = 0 ∨ d = 1 ∨ d = 2 ∨ d = 3 ∨ d = 4 := by omega
  rcases this with rfl | rfl | rfl | rfl | rfl <;> decide
theorem c_written {pp : Params} {nds : List Nd} (g : GN nds) (hn : nds.length ≤ 4) : ∀ (d k : Nat) (p : Int), k < nds.length → nds.length ≤ d + k → d ≤ 4 → ∀ {X : Cx} {n : Nat} {σ : S} {E : Value → S → Prop} {Q : V → S → Prop} (ok : Ok X (n + d)) (hK : X.K = KK pp) (hc : X.ctx = none)
    (q : Q (.tup [.str (wsg nds d k).flatten, wtr nds d k p]) σ), Call X (.ref 158) [.lst (nds.map ndV), .int k, .int p] σ Q E
  | 0, k, p, h1, h2, h3 => by omega
  | d + 1, k, p, h1, h2, h3 => by
    rename_i X n σ E Q
    intro ok hK hc q
    refine Call.fzD ?_
    refine Call.fn' (names := ["nodes", "k", "place"]) (loc0 := [("nodes", .lst (nds.map ndV)), ("k", .int k), ("place", .int p)]) (n := n + d) ok hK (f_written _) (bind3 fun u v w _ => by kernel_rfl) (by kernel_rfl) (by decide +kernel) rfl rfl fun Y okY hI => ?_
    have hKY : Y.K = KK pp := hI.K.trans hK
    have hcY : Y.ctx = none := hI.ctx.trans hc
    have hat := ndAt_of h1
    obtain ⟨o, hk3, hk⟩ := g.at h1
    have hlen := (wsg_fit g (d + 1) k h1 h2).2
    have hbd := bd_le (d + 1) h3
    have hCl := o.sp.fit.2.2.2.1
    have hol := o.len
    rw [show wtr nds (d + 1) k p = .lst [.int p, .str (ndAt nds k).lab, .lst (wrow (wsg nds d) (wtr nds d) (ndAt nds k).kids (p + (((ndAt nds k).C.flatten.length + 1 : Nat) : Int)))] from rfl] at q
    have et : (wsg nds (d + 1) k).flatten = ((ndAt nds k).C.flatten ++ [40]) ++ (wrs (wsg nds d) (ndAt nds k).kids).flatten ++ [41] := by simp [wsg]
    rw [et] at q hlen
    simp only [List.length_append, List.length_cons, List.length_nil] at hlen
    generalize ndAt nds k = nd at *
    conv in bodyAt _ _ => whnf
    refine W.hide fun Q1 E1 hQ1 hE1 => ?_
    ((try dsimp only); (with_reducible refine WXs_cons ?_))
    refine WX_AssignN okY hcY (.cons (by (have hh := In.scope ‹In _ _ _›; exact kindE hh (by kernel_rfl))) (.cons (by (have hh := In.scope ‹In _ _ _›; exact kindE hh (by kernel_rfl))) (.cons (by (have hh := In.scope ‹In _ _ _›; exact kindE hh (by kernel_rfl))) .nil))) ?_ (fun _ => rfl) (fun _ => rfl)
    ((try dsimp only); (with_reducible refine W_Sub ?_))
    ((try dsimp only); ((with_reducible refine W_local (d := ?dz344) (by assumption) ?hkz344 ?hlz344 ?qz344 ?hdz344); (case hkz344 => (have hh := In.scope ‹In _ _ _›; exact kindE hh (by kernel_rfl))); (case hlz344 => ((with_reducible exact lk_hit))); (case hdz344 => decide +kernel); (try dsimp only)))
    ((try dsimp only); ((with_reducible refine W_local (d := ?dz345) (by assumption) ?hkz345 ?hlz345 ?qz345 ?hdz345); (case hkz345 => (have hh := In.scope ‹In _ _ _›; exact kindE hh (by kernel_rfl))); (case hlz345 => ((with_reducible refine lk_skip ?hne2z345 ?hrest2z345); (case hne2z345 => decide +kernel); (with_reducible exact lk_hit))); (case hdz345 => decide +kernel); (try dsimp only)))
    refine s_lstItem (hs := by intro _ _ _; with_unfolding_all rfl) (d := ndV nd) (.val _) (by omega) (by rw [List.getElem?_map, hat]; rfl) ⟨_, rfl, rfl, ?_⟩
    dsimp only [puts]
    ((try dsimp only); (with_reducible refine WXs_cons ?_))
    ((try dsimp only); (with_reducible refine WX_Assign (hs := ?hsz347) (by assumption) ?hkz347 ?_); (case hsz347 => intro _; rfl); (case hkz347 => (have hh := In.scope ‹In _ _ _›; exact kindE hh (by kernel_rfl))))
    ((try dsimp only); (with_reducible refine W_BinOp ?_))
    ((try dsimp only); ((with_reducible refine W_local (d := ?dz349) (by assumption) ?hkz349 ?hlz349 ?qz349 ?hdz349); (case hkz349 => (have hh := In.scope ‹In _ _ _›; exact kindE hh (by kernel_rfl))); (case hlz349 => ((with_reducible refine lkp_skip ?hne3z349 ?hrest3z349); (case hne3z349 => decide +kernel); (with_reducible refine lkp_skip ?hne2z349 ?hrest2z349); (case hne2z349 => decide +kernel); (with_reducible exact lk_put_self))); (case hdz349 => decide +kernel); (try dsimp only)))
    refine W_str s_lpar ?_
    refine o_adds (by simp only [List.length_cons, List.length_nil]; omega) ?_
    ((try dsimp only); (with_reducible refine WXs_cons ?_))
    ((try dsimp only); (with_reducible refine WX_Assign (hs := ?hsz351) (by assumption) ?hkz351 ?_); (case hsz351 => intro _; rfl); (case hkz351 => (have hh := In.scope ‹In _ _ _›; exact kindE hh (by kernel_rfl))))
    refine W_ListO okY ?_
    refine WA_nil ⟨by simp, fun b hb => ?_⟩
    have hb' : σ.hp b = none := hb
    ((try dsimp only); (with_reducible refine WXs_cons ?_))
    refine WX_For (hs := by intro _ _; rfl) okY hcY hI.env (by (have hh := In.scope ‹In _ _ _›; exact kindE hh (by kernel_rfl))) (TInv (wsg nds d) (wtr nds d) nds nd.lab (nd.C.flatten ++ [40]) nd.kids p σ.hp b) ?_
    refine wit_val ?_
    ((try dsimp only); ((with_reducible refine W_local (d := ?dz354) (by assumption) ?hkz354 ?hlz354 ?qz354 ?hdz354); (case hkz354 => (have hh := In.scope ‹In _ _ _›; exact kindE hh (by kernel_rfl))); (case hlz354 => ((with_reducible refine lkp_skip ?hne3z354 ?hrest3z354); (case hne3z354 => decide +kernel); (with_reducible refine lkp_skip ?hne2z354 ?hrest2z354); (case hne2z354 => decide +kernel); (with_reducible exact lk_put_self))); (case hdz354 => decide +kernel); (try dsimp only)))
    refine ⟨_, _, itb_lst, ⟨_, [], rfl, rfl, rfl, by ((with_reducible refine lkp_skip ?hne6z355 ?hrest6z355); (case hne6z355 => decide +kernel); (with_reducible refine lkp_skip ?hne5z355 ?hrest5z355); (case hne5z355 => decide +kernel); (with_reducible refine lkp_skip ?hne4z355 ?hrest4z355); (case hne4z355 => decide +kernel); (with_reducible refine lkp_skip ?hne3z355 ?hrest3z355); (case hne3z355 => decide +kernel); (with_reducible refine lkp_skip ?hne2z355 ?hrest2z355); (case hne2z355 => decide +kernel); (with_reducible exact lk_hit)), by ((with_reducible refine lkp_skip ?hne8z356 ?hrest8z356); (case hne8z356 => decide +kernel); (with_reducible refine lkp_skip ?hne7z356 ?hrest7z356); (case hne7z356 => decide +kernel); (with_reducible refine lkp_skip ?hne6z356 ?hrest6z356); (case hne6z356 => decide +kernel); (with_reducible refine lkp_skip ?hne5z356 ?hrest5z356); (case hne5z356 => decide +kernel); (with_reducible refine lkp_skip ?hne4z356 ?hrest4z356); (case hne4z356 => decide +kernel); (with_reducible refine lk_skip ?hne3z356 ?hrest3z356); (case hne3z356 => decide +kernel); (with_reducible refine lk_skip ?hne2z356 ?hrest2z356); (case hne2z356 => decide +kernel); (with_reducible exact lk_hit)), by ((with_reducible refine lkp_skip ?hne4z357 ?hrest4z357); (case hne4z357 => decide +kernel); (with_reducible refine lkp_skip ?hne3z357 ?hrest3z357); (case hne3z357 => decide +kernel); (with_reducible refine lkp_skip ?hne2z357 ?hrest2z357); (case hne2z357 => decide +kernel); (with_reducible exact lk_put_self)), by ((with_reducible refine lkp_skip ?hne2z358 ?hrest2z358); (case hne2z358 => decide +kernel); (with_reducible exact lk_put_self)), by ((with_reducible exact lk_put_self))⟩, fun i σ' wr hi inv okw => ?_, fun σ' inv => ?_⟩
    · obtain ⟨loc, hp⟩ := σ'
      obtain ⟨T, R, eh, hT, hR, e1, e2, e3, e4, e5⟩ := inv
      dsimp only at eh e1 e2 e3 e4 e5
      unfold kidsV at hi
      rw [List.length_map] at hi
      have hj : nd.kids[i]? = some (nd.kids[i]) := List.getElem?_eq_getElem hi
      rw [show (kidsV nd).getD i .none = .int (nd.kids[i] : Nat) from by unfold kidsV; rw [List.getD_eq_getElem?_getD, List.getElem?_map, hj]; rfl]
      obtain ⟨j1, j2⟩ := hk _ (List.mem_of_getElem? hj)
      rw [List.drop_eq_getElem_cons hi] at hT hR
      generalize nd.kids[i] = j at *
      have hlT := congrArg List.length hT
      have hlR := congrArg List.length hR
      rw [wrow_len, List.length_append, wrow_len, List.length_cons] at hlR
      change (T ++ (wsg nds d j ++ wrs (wsg nds d) (nd.kids.drop (i + 1))).flatten).length = _ at hlT
      simp only [List.flatten_append, List.length_append, List.length_cons, List.length_nil] at hlT
      have hpb : hp b = some (.lst R) := by rw [eh, upd_self]
      refine W.hideQ fun Q2 hQ2 => ?_
      ((try dsimp only); (with_reducible refine WXs_cons ?_))
      refine WX_AssignN okw hcY (.cons (by (have hh := In.scope ‹In _ _ _›; exact kindE hh (by kernel_rfl))) (.cons (by (have hh := In.scope ‹In _ _ _›; exact kindE hh (by kernel_rfl))) .nil)) ?_ (fun _ => rfl) (fun _ => rfl)
      refine W_Call (hplain := by intro _; rfl) okw ?_
      refine W_gl okw hKY (by (have hh := In.scope ‹In _ _ _›; exact kindE hh (by kernel_rfl))) (g_written _) (by decide +kernel) ?_
      refine ⟨_, rfl, keeps_fn hKY (by kernel_rfl), ?_⟩
      refine WA_cons ?_
      ((try dsimp only); ((with_reducible refine W_local (d := ?dz364) (by assumption) ?hkz364 ?hlz364 ?qz364 ?hdz364); (case hkz364 => (have hh := In.scope ‹In _ _ _›; exact kindE hh (by kernel_rfl))); (case hlz364 => ((with_reducible refine lkp_skip ?hne2z364 ?hrest2z364); (case hne2z364 => decide +kernel); (with_reducible assumption))); (case hdz364 => decide +kernel); (try dsimp only)))
      refine WA_cons ?_
      ((try dsimp only); ((with_reducible refine W_local (d := ?dz365) (by assumption) ?hkz365 ?hlz365 ?qz365 ?hdz365); (case hkz365 => (have hh := In.scope ‹In _ _ _›; exact kindE hh (by kernel_rfl))); (case hlz365 => ((with_reducible exact lk_put_self))); (case hdz365 => decide +kernel); (try dsimp only)))
      refine WA_cons ?_
      ((try dsimp only); (with_reducible refine W_BinOp ?_))
      ((try dsimp only); ((with_reducible refine W_local (d := ?dz367) (by assumption) ?hkz367 ?hlz367 ?qz367 ?hdz367); (case hkz367 => (have hh := In.scope ‹In _ _ _›; exact kindE hh (by kernel_rfl))); (case hlz367 => ((with_reducible refine lkp_skip ?hne2z367 ?hrest2z367); (case hne2z367 => decide +kernel); (with_reducible assumption))); (case hdz367 => decide +kernel); (try dsimp only)))
      refine W_Call (hplain := by intro _; rfl) okw ?_
      refine W_bi (v := .builtin "len") okw hKY (by (have hh := In.scope ‹In _ _ _›; exact kindE hh (by kernel_rfl))) (b_len _) (by kernel_rfl) (by decide +kernel) (by decide +kernel) ?_
      refine ⟨_, rfl, keeps_builtin, ?_⟩
      refine WA_cons ?_
      ((try dsimp only); ((with_reducible refine W_local (d := ?dz369) (by assumption) ?hkz369 ?hlz369 ?qz369 ?hdz369); (case hkz369 => (have hh := In.scope ‹In _ _ _›; exact kindE hh (by kernel_rfl))); (case hlz369 => ((with_reducible refine lkp_skip ?hne2z369 ?hrest2z369); (case hne2z369 => decide +kernel); (with_reducible assumption))); (case hdz369 => decide +kernel); (try dsimp only)))
      refine WA_nil ?_
      refine c_lens (by omega) ?_
      refine o_addi ?_
      refine WA_nil ?_
      refine c_written g hn d j _ j2 (by omega) (by omega) (n := n) okw hKY hcY ⟨_, rfl, rfl, ?_⟩
      dsimp only [puts]
      ((try dsimp only); (with_reducible refine WXs_cons ?_))
      ((try dsimp only); (with_reducible refine WX_Aug (d := ?dz371) (by assumption) ?hkz371 ?hlz371 ?_); (case hkz371 => (have hh := In.scope ‹In _ _ _›; exact kindE hh (by kernel_rfl))); (case hlz371 => ((with_reducible refine lkp_skip ?hne4z371 ?hrest4z371); (case hne4z371 => decide +kernel); (with_reducible refine lkp_skip ?hne3z371 ?hrest3z371); (case hne3z371 => decide +kernel); (with_reducible refine lkp_skip ?hne2z371 ?hrest2z371); (case hne2z371 => decide +kernel); (with_reducible assumption))))
      ((try dsimp only); ((with_reducible refine W_local (d := ?dz372) (by assumption) ?hkz372 ?hlz372 ?qz372 ?hdz372); (case hkz372 => (have hh := In.scope ‹In _ _ _›; exact kindE hh (by kernel_rfl))); (case hlz372 => ((with_reducible refine lkp_skip ?hne2z372 ?hrest2z372); (case hne2z372 => decide +kernel); (with_reducible exact lk_put_self))); (case hdz372 => decide +kernel); (try dsimp only)))
      refine o_iadds (by omega) ?_
      ((try dsimp only); (with_reducible refine WXs_cons ?_))
      refine WX_Expr (hs := by intro _; rfl) okw ?_
      refine W_Method (hbase := by intro _; rfl) (hfew := by intro _; rfl) (hline := by rfl) (hplain := by intro _; rfl) okw ?_
      ((try dsimp only); ((with_reducible refine W_local (d := ?dz374) (by assumption) ?hkz374 ?hlz374 ?qz374 ?hdz374); (case hkz374 => (have hh := In.scope ‹In _ _ _›; exact kindE hh (by kernel_rfl))); (case hlz374 => ((with_reducible refine lkp_skip ?hne5z374 ?hrest5z374); (case hne5z374 => decide +kernel); (with_reducible refine lkp_skip ?hne4z374 ?hrest4z374); (case hne4z374 => decide +kernel); (with_reducible refine lkp_skip ?hne3z374 ?hrest3z374); (case hne3z374 => decide +kernel); (with_reducible refine lkp_skip ?hne2z374 ?hrest2z374); (case hne2z374 => decide +kernel); (with_reducible assumption))); (case hdz374 => decide +kernel); (try dsimp only)))
      refine gm_append hpb ⟨keeps_builtin, ?_⟩
      refine WA_cons ?_
      ((try dsimp only); ((with_reducible refine W_local (d := ?dz375) (by assumption) ?hkz375 ?hlz375 ?qz375 ?hdz375); (case hkz375 => (have hh := In.scope ‹In _ _ _›; exact kindE hh (by kernel_rfl))); (case hlz375 => ((with_reducible refine lkp_skip ?hne2z375 ?hrest2z375); (case hne2z375 => decide +kernel); (with_reducible exact lk_put_self))); (case hdz375 => decide +kernel); (try dsimp only)))
      refine WA_nil ?_
      refine c_append okw hpb (by omega) ?_
      ((try dsimp only); ((with_reducible refine WXs_nil ?_); (try dsimp only)))
      refine hQ2 _ _ ⟨_, _, by rw [eh, upd_upd], ?_, ?_, by ((with_reducible refine lkp_skip ?hne5z377 ?hrest5z377); (case hne5z377 => decide +kernel); (with_reducible refine lkp_skip ?hne4z377 ?hrest4z377); (case hne4z377 => decide +kernel); (with_reducible refine lkp_skip ?hne3z377 ?hrest3z377); (case hne3z377 => decide +kernel); (with_reducible refine lkp_skip ?hne2z377 ?hrest2z377); (case hne2z377 => decide +kernel); (with_reducible assumption)), by ((with_reducible refine lkp_skip ?hne5z378 ?hrest5z378); (case hne5z378 => decide +kernel); (with_reducible refine lkp_skip ?hne4z378 ?hrest4z378); (case hne4z378 => decide +kernel); (with_reducible refine lkp_skip ?hne3z378 ?hrest3z378); (case hne3z378 => decide +kernel); (with_reducible refine lkp_skip ?hne2z378 ?hrest2z378); (case hne2z378 => decide +kernel); (with_reducible assumption)), by ((with_reducible refine lkp_skip ?hne5z379 ?hrest5z379); (case hne5z379 => decide +kernel); (with_reducible refine lkp_skip ?hne4z379 ?hrest4z379); (case hne4z379 => decide +kernel); (with_reducible refine lkp_skip ?hne3z379 ?hrest3z379); (case hne3z379 => decide +kernel); (with_reducible refine lkp_skip ?hne2z379 ?hrest2z379); (case hne2z379 => decide +kernel); (with_reducible assumption)), by ((with_reducible exact lk_put_self)), by ((with_reducible refine lkp_skip ?hne5z381 ?hrest5z381); (case hne5z381 => decide +kernel); (with_reducible refine lkp_skip ?hne4z381 ?hrest4z381); (case hne4z381 => decide +kernel); (with_reducible refine lkp_skip ?hne3z381 ?hrest3z381); (case hne3z381 => decide +kernel); (with_reducible refine lkp_skip ?hne2z381 ?hrest2z381); (case hne2z381 => decide +kernel); (with_reducible assumption))⟩
      · rw [← hT, List.append_assoc]
        show _ = T ++ (wsg nds d j ++ wrs _ _).flatten
        rw [List.flatten_append]
      · rw [← hR, List.append_assoc, List.length_append]
        show R ++ (wtr nds d j (p + (T.length : Nat)) :: wrow _ _ _ (p + ((T.length + (wsg nds d j).flatten.length : Nat) : Int))) = R ++ (wtr nds d j (p + (T.length : Nat)) :: wrow _ _ _ (p + (T.length : Nat) + ((wsg nds d j).flatten.length : Nat)))
        rw [Int.natCast_add, Int.add_assoc]
    · obtain ⟨loc, hp⟩ := σ'
      obtain ⟨T, R, eh, hT, hR, e1, e2, e3, e4, e5⟩ := inv
      dsimp only at eh e1 e2 e3 e4 e5
      have hd0 : nd.kids.drop (kidsV nd).length = [] := by unfold kidsV; rw [List.length_map, List.drop_length]
      rw [hd0] at hT hR
      have hT' : T = (nd.C.flatten ++ [40]) ++ (wrs (wsg nds d) nd.kids).flatten := by rw [← hT]; exact (List.append_nil _).symm
      have hR' : R = wrow (wsg nds d) (wtr nds d) nd.kids (p + ((nd.C.flatten.length + 1 : Nat) : Int)) := by
        rw [← List.append_nil R]; rw [List.length_append] at hR; exact hR
      rw [← hT', ← hR'] at q
      have hlT := congrArg List.length hT'
      simp only [List.length_append, List.length_cons, List.length_nil] at hlT
      ((try dsimp only); ((with_reducible refine WXs_nil ?_); (try dsimp only)))
      ((try dsimp only); (with_reducible refine WXs_cons ?_))
      ((try dsimp only); (with_reducible refine WX_Return ?_))
      refine W_Tuple ?_
      refine WA_cons ?_
      ((try dsimp only); (with_reducible refine W_BinOp ?_))
      ((try dsimp only); ((with_reducible refine W_local (d := ?dz386) (by assumption) ?hkz386 ?hlz386 ?qz386 ?hdz386); (case hkz386 => (have hh := In.scope ‹In _ _ _›; exact kindE hh (by kernel_rfl))); (case hlz386 => ((with_reducible assumption))); (case hdz386 => decide +kernel); (try dsimp only)))
      refine W_str s_rpar ?_
      refine o_adds (by simp only [List.length_cons, List.length_nil]; omega) ?_
      refine WA_cons ?_
      refine W_List ?_
      refine WA_cons ?_
      ((try dsimp only); ((with_reducible refine W_local (d := ?dz387) (by assumption) ?hkz387 ?hlz387 ?qz387 ?hdz387); (case hkz387 => (have hh := In.scope ‹In _ _ _›; exact kindE hh (by kernel_rfl))); (case hlz387 => ((with_reducible assumption))); (case hdz387 => decide +kernel); (try dsimp only)))
      refine WA_cons ?_
      ((try dsimp only); ((with_reducible refine W_local (d := ?dz388) (by assumption) ?hkz388 ?hlz388 ?qz388 ?hdz388); (case hkz388 => (have hh := In.scope ‹In _ _ _›; exact kindE hh (by kernel_rfl))); (case hlz388 => ((with_reducible assumption))); (case hdz388 => decide +kernel); (try dsimp only)))
      refine WA_cons ?_
      ((try dsimp only); ((with_reducible refine W_local (d := ?dz389) (by assumption) ?hkz389 ?hlz389 ?qz389 ?hdz389); (case hkz389 => (have hh := In.scope ‹In _ _ _›; exact kindE hh (by kernel_rfl))); (case hlz389 => ((with_reducible assumption))); (case hdz389 => decide +kernel); (try dsimp only)))
      refine WA_nil ⟨by simp, ?_⟩
      refine WA_nil ⟨by simp, ?_⟩
      refine hQ1 _ _ ⟨σ.hp, _, fun c o e => ?_, .tup (.cons (.refl _) (.cons (.lst (.cons (.refl _) (.cons (.refl _) (.cons (.own (by show hp b = _; rw [eh, upd_self]) hb' (FzDs.refl _)) .nil)))) .nil)), q⟩
      show hp c = _
      rw [eh, upd_ne (fun z => by rw [z, hb'] at e; cases e)]; exact e
end Mine
namespace Mine
open PySem PySem.W PySem.Calls PySem.Spec PyProof.Rows
theorem SpL.uncons {s : List Nat} {S : List (List Nat)} {m : List Nat} (x : SpL (s :: S) m) : ∃ y c l, s = y ++ [c] ∧ y.length ≤ 1 ∧ m = c :: l ∧ SpL S l := by
  cases x with
  | one h1 h2 h3 h4 r => exact ⟨[], _, _, rfl, Nat.zero_le _, rfl, r⟩
  | esc h3 h4 r => exact ⟨[92], _, _, rfl, Nat.le_refl _, rfl, r⟩
theorem s_strLast {X : Cx} {n : Nat} {σ : S} {E : Value → S → Prop} {y : List Nat} {c : Nat} {value slice : Expr} {Q : V → S → Prop} (ok : Ok X n) (hc : X.ctx = none) (q : Q (.str [c]) σ)
    (hs : ∀ x t i u, subscripted slice false (.str x t) (.int i u) = operate [.str x t, .int i u] (getItem (.str x t) (.int i u)))
    (ht : ∀ x t r, letTemporaryGo value (.str x t) r = pure ()) : Op2 X (subscriptTail value slice) (.str (y ++ [c])) (.int (-1)) σ Q E := fun v w s st va wb => by
  obtain ⟨t, rfl⟩ := va.strI
  obtain ⟨_, rfl⟩ := wb.intI
  have hlen : (⟨(y ++ [c]).toArray⟩ : Str).length = y.length + 1 := by simp [Str.length]
  refine item_str_or (by rw [ok.handled, hc]; rfl) (fits_ssize (by omega) (by omega)) (fun ho h' tk e N => ?_) (fun h1 h2 => ?_) (hs _ _ _ _) (ht _ _)
  · rw [hlen] at ho; omega
  · refine qw_same st _ (.strE ?_) q
    unfold Txt.item Txt.charAt seqIndex?
    simp [hlen]
    rw [if_pos (by omega), show (-1 + ((y.length : Int) + 1)).toNat = y.length from by omega]
    simp
inductive BInv (l lab : List Nat) (hp0 : Addr → Option HO) (a dx : Addr) (k : Nat) (σ' : S) : Prop
  | mk (j : Nat) (dd : V) (S' : List (List Nat)) (acc labs : List Nat) (e : k = S'.length) (rd : Rd l j false dd S') (sp : SpL S' labs) (ea : acc ++ labs = lab) (tk : Tk σ'.hp a dx l j dd) (sub : ∀ b o, hp0 b = some o → σ'.hp b = some o)
    (et : lk σ'.loc "t" = some (.ref a)) (el : lk σ'.loc "letters" = some (.str acc))
theorem c_bare {pp : Params} {X : Cx} {n : Nat} {σ : S} {E : Value → S → Prop} {C : List (List Nat)} {lab : List Nat} {Q : V → S → Prop} (ok : Ok X (n + 4)) (hK : X.K = KK pp) (hP : X.prog = PySem.Challenge.rw_ij0062_02.row.prog) (hc : X.ctx = none) (sp : SpL C lab) (hl : lab.length ≤ 2)
    (q : Q (.str lab) σ) : Call X (.ref 165) [.str C.flatten] σ Q E := by
  refine Call.fzD ?_
  refine Call.fn' (names := ["name"]) (loc0 := [("name", .str C.flatten)]) (n := n + 3) ok hK (f_bare _) (bind1 fun v _ => by kernel_rfl) (by kernel_rfl) (by decide +kernel) rfl rfl fun Y okY hI => ?_
  have hKY : Y.K = KK pp := hI.K.trans hK
  have hcY : Y.ctx = none := hI.ctx.trans hc
  have hPY := hI.prog.trans hP
  obtain ⟨ft, _, hcl, hfl, _⟩ := sp.fit
  have hrs := rs_good C fun s hs => (ft s hs).1
  have nn : 10 ∉ C.flatten := fun hm => by
    obtain ⟨s, hs, hm⟩ := List.mem_flatten.mp hm
    exact ((ft s hs).2 10 hm).2 rfl
  generalize C.flatten = l at *
  conv in bodyAt _ _ => whnf
  refine W.hide fun Q1 E1 hQ1 hE1 => ?_
  ((try dsimp only); (with_reducible refine WXs_cons ?_))
  ((try dsimp only); (with_reducible refine WX_Assign (hs := ?hsz461) (by assumption) ?hkz461 ?_); (case hsz461 => intro _; rfl); (case hkz461 => (have hh := In.scope ‹In _ _ _›; exact kindE hh (by kernel_rfl))))
  refine W_Call (hplain := by intro _; rfl) okY ?_
  refine W_gl okY hKY (by (have hh := In.scope ‹In _ _ _›; exact kindE hh (by kernel_rfl))) (g_tok _) (by decide +kernel) ?_
  refine ⟨_, rfl, keeps_fn hKY (by kernel_rfl), ?_⟩
  refine WA_cons ?_
  ((try dsimp only); ((with_reducible refine W_local (d := ?dz463) (by assumption) ?hkz463 ?hlz463 ?qz463 ?hdz463); (case hkz463 => (have hh := In.scope ‹In _ _ _›; exact kindE hh (by kernel_rfl))); (case hlz463 => ((with_reducible exact lk_hit))); (case hdz463 => decide +kernel); (try dsimp only)))
  refine WA_nil ?_
  refine c_new (n := n) okY hKY hPY hcY (by omega) nn fun a dx hp' ha0 hdx0 sub => ?_
  have hsg := sg_rs (l := l) (i := 0) (Nat.zero_le _)
  rw [List.drop_zero, hrs] at hsg
  cases hs : sg l 0 with
  | none => rw [hs] at hsg; cases hsg
  | some je =>
    obtain ⟨j, dd⟩ := je
    rw [hs] at hsg
    dsimp only at hsg ⊢
    intro tk
    ((try dsimp only); (with_reducible refine WXs_cons ?_))
    ((try dsimp only); (with_reducible refine WX_Assign (hs := ?hsz465) (by assumption) ?hkz465 ?_); (case hsz465 => intro _; rfl); (case hkz465 => (have hh := In.scope ‹In _ _ _›; exact kindE hh (by kernel_rfl))))
    refine W_str s_e ?_
    ((try dsimp only); (with_reducible refine WXs_cons ?_))
    refine WX_While okY hI.env (BInv l lab σ.hp a dx) (fun k σ' inv => ?_) C.length ⟨j, dd, C, [], lab, rfl, hsg, sp, rfl, tk, sub, by ((with_reducible refine lkp_skip ?hne2z467 ?hrest2z467); (case hne2z467 => decide +kernel); (with_reducible exact lk_put_self)), by ((with_reducible exact lk_put_self))⟩
    obtain ⟨loc, hp⟩ := σ'
    obtain ⟨j, dd, S', acc, labs, rfl, rd', sp', ea, tk, sub, et, el⟩ := inv
    dsimp only at tk sub et el
    have hjl := rd'.le
    have hal := congrArg List.length ea
    rw [List.length_append] at hal
    ((try dsimp only); ((with_reducible refine WT_Compare (hm := ?hmz469) ?_); (case hmz469 => with_unfolding_all rfl)))
    refine W_field (by assumption) ?_ (by decide +kernel) (by ((with_reducible assumption))) tk.inst tk.dict (hKY ▸ kg_next _) (tok_next _ _ _) rd'.lit ?_
    · (have hh := In.scope ‹In _ _ _›; exact kindE hh (by kernel_rfl))
    ((try dsimp only); ((with_reducible refine W_none ?_); (try dsimp only)))
    cases rd' with
    | nil h1 h2 h3 =>
      refine o_notnone trivial (t_bool ?_)
      rw [if_neg (by decide)]
      cases sp'
      rw [List.append_nil] at ea
      subst ea
      ((try dsimp only); ((with_reducible refine WXs_nil ?_); (try dsimp only)))
      ((try dsimp only); (with_reducible refine WXs_cons ?_))
      ((try dsimp only); (with_reducible refine WX_Return ?_))
      ((try dsimp only); ((with_reducible refine W_local (d := ?dz476) (by assumption) ?hkz476 ?hlz476 ?qz476 ?hdz476); (case hkz476 => (have hh := In.scope ‹In _ _ _›; exact kindE hh (by kernel_rfl))); (case hlz476 => ((with_reducible assumption))); (case hdz476 => decide +kernel); (try dsimp only)))
      exact hQ1 _ _ ⟨σ.hp, _, sub, .refl _, q⟩
    | cons s S'' h1 h2 h3 h4 =>
      have rd' : Rd l j false (.str s) (s :: S'') := .cons s S'' h1 h2 h3 h4
      obtain ⟨y, c, labs', rfl, hy, rfl, sp''⟩ := sp'.uncons
      refine o_notnone trivial (t_bool ?_)
      rw [if_pos (by rfl)]
      refine W.hideQ fun Q3 hQ3 => ?_
      ((try dsimp only); (with_reducible refine WXs_cons ?_))
      ((try dsimp only); (with_reducible refine WX_Aug (d := ?dz478) (by assumption) ?hkz478 ?hlz478 ?_); (case hkz478 => (have hh := In.scope ‹In _ _ _›; exact kindE hh (by kernel_rfl))); (case hlz478 => ((with_reducible assumption))))
      ((try dsimp only); (with_reducible refine W_Sub ?_))
      refine W_Method (hbase := by intro _; rfl) (hfew := by intro _; rfl) (hline := by rfl) (hplain := by intro _; rfl) okY ?_
      ((try dsimp only); ((with_reducible refine W_local (d := ?dz480) (by assumption) ?hkz480 ?hlz480 ?qz480 ?hdz480); (case hkz480 => (have hh := In.scope ‹In _ _ _›; exact kindE hh (by kernel_rfl))); (case hlz480 => ((with_reducible assumption))); (case hdz480 => decide +kernel); (try dsimp only)))
      refine getm_inst okY tk.inst tk.dict (hKY ▸ km_get _) (by kernel_rfl) ⟨keeps_fn hKY (by kernel_rfl), ?_⟩
      refine WA_nil ?_
      refine c_get (n := n) okY hKY hPY hcY tk (nl rfl) (by omega) (by omega) ?_
      have hsg := sg_cons rd'
      cases hs : sg l j with
      | none => rw [hs] at hsg; cases hsg.2
      | some je =>
        obtain ⟨j1, d1⟩ := je
        rw [hs] at hsg
        dsimp only at hsg ⊢
        refine W_Unary ?_
        ((try dsimp only); ((with_reducible refine W_int ?_); (try dsimp only)))
        refine o_negi ?_
        refine s_strLast okY hcY ?_ (by intro _ _ _ _; with_unfolding_all rfl) (by intro _ _ _; with_unfolding_all rfl)
        refine o_iadds (by simp only [List.length_cons, List.length_nil] at hal ⊢; omega) ?_
        ((try dsimp only); ((with_reducible refine WXs_nil ?_); (try dsimp only)))
        refine hQ3 _ _ ⟨S''.length, by simp, j1, d1, S'', acc ++ [c], labs', rfl, hsg, sp'', by rw [← ea, List.append_assoc]; rfl, tk.upd j1 d1, fun b o e => ?_, by ((with_reducible refine lkp_skip ?hne2z483 ?hrest2z483); (case hne2z483 => decide +kernel); (with_reducible assumption)), by ((with_reducible exact lk_put_self))⟩
        show upd hp dx _ b = _
        rw [upd_ne (hp_ne e hdx0).symm]; exact sub b o e
inductive Turn (err : Bool) (P : List (List Nat) → Option (V × List (List Nat)) → Prop) (k : Nat) (S : List (List Nat)) (o : Option (List V × List (List Nat))) : Prop
  | done (R : List (List Nat)) (e : S = [41] :: R) (h : ¬ (R = [] ∧ err = true)) (eo : o = some ([], R))
  | stop (e : S = [[41]]) (h : err = true) (eo : o = none)
  | more (o₁ : Option (V × List (List Nat))) (h : S.head? ≠ some [41]) (r : P S o₁) (no : o₁ = none → o = none) (yes : ∀ t S2, o₁ = some (t, S2) → S2.flatten.length < S.flatten.length ∧ ∃ k' o2, k' < k ∧ RW err P k' S2 o2 ∧ o = o2.map fun p => (t :: p.1, p.2))
theorem RW.turn {err : Bool} {P : List (List Nat) → Option (V × List (List Nat)) → Prop} {k : Nat} {S : List (List Nat)} {o : Option (List V × List (List Nat))} (w : RW err P k S o) : Turn err P k S o := by
  cases w with
  | done h => exact .done _ rfl h rfl
  | stop h => exact .stop rfl h rfl
  | fail h r => exact .more none h r (fun _ => rfl) fun _ _ e => nomatch e
  | cons h r hl w =>
    refine .more _ h r (fun e => nomatch e) fun t S2 e => ?_
    · obtain ⟨rfl, rfl⟩ := Prod.mk.inj (Option.some.inj e)
      exact ⟨hl, _, _, Nat.lt_succ_self _, w, rfl⟩
noncomputable def Outc (o : Option (V × List (List Nat))) (bad : Prop) (good : V → List (List Nat) → Prop) : Prop := match o with
  | none => bad
  | some (v, S') => good v S'
noncomputable def ReadC (pp : Params) (N : Nat) (l : List Nat) (err : Bool) (P : List (List Nat) → Option (V × List (List Nat)) → Prop) : Prop :=
  ∀ {X : Cx} {σ : S} {E : Value → S → Prop} {a dx : Addr} {i : Nat} {d : V} {SS : List (List Nat)} {o : Option (V × List (List Nat))} {Q : V → S → Prop} (ok : Ok X N) (hK : X.K = KK pp) (hP : X.prog = PySem.Challenge.rw_ij0062_02.row.prog) (hc : X.ctx = none) (tk : Tk σ.hp a dx l i d) (rd : Rd l i err d SS) (hS : (SS.flatten.length : Int) + (if err then 1 else 0) ≤ l.length) (po : P SS o)
    (q : Outc o (∀ j e, E (.ref CP) { σ with hp := upd σ.hp dx (.dict (tokFs l j e)) }) fun v S' => ∀ j e, Rd l j err e S' → Q v { σ with hp := upd σ.hp dx (.dict (tokFs l j e)) }), Call X (.ref 172) [.ref a] σ Q E
inductive RInv (l lab : List Nat) (pc : Int) (err : Bool) (P : List (List Nat) → Option (V × List (List Nat)) → Prop) (o : Option (List V × List (List Nat))) (hp0 : Addr → Option HO) (a dx b : Addr) (nm : V) (k : Nat) (σ' : S) : Prop
  | mk (j : Nat) (dd : V) (S' : List (List Nat)) (acc : List V) (o' : Option (List V × List (List Nat))) (rd : Rd l j err dd S') (w : RW err P k S' o') (eo : o = o'.map fun p => (acc ++ p.1, p.2)) (hS : (S'.flatten.length : Int) + acc.length + (if err then 1 else 0) ≤ l.length) (eh : σ'.hp = upd (upd hp0 dx (.dict (tokFs l j dd))) b (.lst acc))
    (et : lk σ'.loc "t" = some (.ref a)) (ep : lk σ'.loc "place" = some (.int pc)) (el : lk σ'.loc "label" = some (.str lab)) (er : lk σ'.loc "row" = some (.ref b))
theorem c_read_step {pp : Params} {N : Nat} {l : List Nat} {err : Bool} {P : List (List Nat) → Option (V × List (List Nat)) → Prop} (hl : l.length ≤ 1000) (IH : ReadC pp (N + 4) l err P) : ReadC pp (N + 5) l err (ROs l.length err P) := by
  intro X σ E a dx i d SS o Q ok hK hP hc tk rd hS po q
  refine Call.dropE (Call.fzD ?_)
  refine Call.fn' (names := ["t"]) (loc0 := [("t", .ref a)]) (n := N + 4) ok hK (f_read _) (bind1 fun v _ => by kernel_rfl) (by kernel_rfl) (by decide +kernel) rfl rfl fun Y okY hI => ?_
  have hKY : Y.K = KK pp := hI.K.trans hK
  have hcY : Y.ctx = none := hI.ctx.trans hc
  have hPY := hI.prog.trans hP
  have t1 := tk.inst
  have t2 := tk.dict
  have had : a ≠ dx := kd_ne t1 t2 rfl
  have hpos : (i : Int) - (nlen d : Nat) = pl l.length err SS := rd.posE
  conv in bodyAt _ _ => whnf
  refine W.hide fun Q1 E1 hQ1 hE1 => ?_
  ((try dsimp only); (with_reducible refine WXs_cons ?_))
  ((try dsimp only); (with_reducible refine WX_Assign (hs := ?hsz486) (by assumption) ?hkz486 ?_); (case hsz486 => intro _; rfl); (case hkz486 => (have hh := In.scope ‹In _ _ _›; exact kindE hh (by kernel_rfl))))
  refine W_Method (hbase := by intro _; rfl) (hfew := by intro _; rfl) (hline := by rfl) (hplain := by intro _; rfl) okY ?_
  ((try dsimp only); ((with_reducible refine W_local (d := ?dz487) (by assumption) ?hkz487 ?hlz487 ?qz487 ?hdz487); (case hkz487 => (have hh := In.scope ‹In _ _ _›; exact kindE hh (by kernel_rfl))); (case hlz487 => ((with_reducible exact lk_hit))); (case hdz487 => decide +kernel); (try dsimp only)))
  refine getm_inst okY t1 t2 (hKY ▸ km_tell _) (by kernel_rfl) ⟨keeps_fn hKY (by kernel_rfl), ?_⟩
  refine WA_nil ?_
  refine c_tell (n := N + 3) okY hKY tk rd.sgn ?_
  rw [hpos]
  ((try dsimp only); (with_reducible refine WXs_cons ?_))
  ((try dsimp only); (with_reducible refine WX_Assign (hs := ?hsz489) (by assumption) ?hkz489 ?_); (case hsz489 => intro _; rfl); (case hkz489 => (have hh := In.scope ‹In _ _ _›; exact kindE hh (by kernel_rfl))))
  refine W_Method (hbase := by intro _; rfl) (hfew := by intro _; rfl) (hline := by rfl) (hplain := by intro _; rfl) okY ?_
  ((try dsimp only); ((with_reducible refine W_local (d := ?dz490) (by assumption) ?hkz490 ?hlz490 ?qz490 ?hdz490); (case hkz490 => (have hh := In.scope ‹In _ _ _›; exact kindE hh (by kernel_rfl))); (case hlz490 => ((with_reducible refine lkp_skip ?hne2z490 ?hrest2z490); (case hne2z490 => decide +kernel); (with_reducible exact lk_hit))); (case hdz490 => decide +kernel); (try dsimp only)))
  refine getm_inst okY t1 t2 (hKY ▸ km_gun _) (by kernel_rfl) ⟨keeps_fn hKY (by kernel_rfl), ?_⟩
  refine WA_cons (W_str s_lpar ?_)
  refine WA_cons (W_str rfl ?_)
  refine WA_nil ?_
  refine c_gun (n := N + 1) okY hKY hPY hcY tk hl rd (by decide) (by decide +kernel) hS ?_
  cases po with
  | bad h =>
    rw [h]
    dsimp only at q ⊢
    intro j e _
    exact hE1 _ _ ⟨_, fun _ _ z => z, q j e⟩
  | @go C S1 lab m o sp h1 h2 h3 w =>
    obtain ⟨ft, hno, hCl, hCf, _⟩ := sp.fit
    have hCe : C.flatten ≠ [] := fun e => by
      cases C with
      | nil => exact h1 rfl
      | cons s C =>
        obtain ⟨y, c, _, rfl, _⟩ := sp.uncons
        simp at e
    rw [gu_some _ _ _ _ _ hno, List.nil_append, if_neg h3, if_neg hCe]
    dsimp only
    intro j e rd1
    have hpos1 := rd1.posE
    have tk1 := tk.upd j e
    rw [List.flatten_append, List.length_append, List.flatten_cons, List.length_append, List.length_singleton] at hS
    ((try dsimp only); (with_reducible refine WXs_cons ?_))
    ((try dsimp only); (with_reducible refine WX_If ?_))
    ((try dsimp only); ((with_reducible refine WT_Compare (hm := ?hmz493) ?_); (case hmz493 => with_unfolding_all rfl)))
    refine W_Method (hbase := by intro _; rfl) (hfew := by intro _; rfl) (hline := by rfl) (hplain := by intro _; rfl) okY ?_
    ((try dsimp only); ((with_reducible refine W_local (d := ?dz494) (by assumption) ?hkz494 ?hlz494 ?qz494 ?hdz494); (case hkz494 => (have hh := In.scope ‹In _ _ _›; exact kindE hh (by kernel_rfl))); (case hlz494 => ((with_reducible refine lkp_skip ?hne3z494 ?hrest3z494); (case hne3z494 => decide +kernel); (with_reducible refine lkp_skip ?hne2z494 ?hrest2z494); (case hne2z494 => decide +kernel); (with_reducible exact lk_hit))); (case hdz494 => decide +kernel); (try dsimp only)))
    refine getm_inst okY tk1.inst tk1.dict (hKY ▸ km_tell _) (by kernel_rfl) ⟨keeps_fn hKY (by kernel_rfl), ?_⟩
    refine WA_nil ?_
    refine c_tell (n := N + 3) okY hKY tk1 rd1.sgn ?_
    rw [hpos1]
    ((try dsimp only); (with_reducible refine W_BinOp ?_))
    ((try dsimp only); (with_reducible refine W_BinOp ?_))
    ((try dsimp only); ((with_reducible refine W_local (d := ?dz497) (by assumption) ?hkz497 ?hlz497 ?qz497 ?hdz497); (case hkz497 => (have hh := In.scope ‹In _ _ _›; exact kindE hh (by kernel_rfl))); (case hlz497 => ((with_reducible refine lkp_skip ?hne2z497 ?hrest2z497); (case hne2z497 => decide +kernel); (with_reducible exact lk_put_self))); (case hdz497 => decide +kernel); (try dsimp only)))
    refine W_Call (hplain := by intro _; rfl) okY ?_
    refine W_bi (v := .builtin "len") okY hKY (by (have hh := In.scope ‹In _ _ _›; exact kindE hh (by kernel_rfl))) (b_len _) (by kernel_rfl) (by decide +kernel) (by decide +kernel) ?_
    refine ⟨_, rfl, keeps_builtin, ?_⟩
    refine WA_cons ?_
    ((try dsimp only); ((with_reducible refine W_local (d := ?dz499) (by assumption) ?hkz499 ?hlz499 ?qz499 ?hdz499); (case hkz499 => (have hh := In.scope ‹In _ _ _›; exact kindE hh (by kernel_rfl))); (case hlz499 => ((with_reducible exact lk_put_self))); (case hdz499 => decide +kernel); (try dsimp only)))
    refine WA_nil ?_
    refine c_lens (by omega) ?_
    refine o_addi ?_
    ((try dsimp only); ((with_reducible refine W_int ?_); (try dsimp only)))
    refine o_addi ?_
    refine o_nei (t_bool ?_)
    have hpl : pl l.length err (C ++ [40] :: S1) = l.length - ((C ++ [40] :: S1).flatten.length : Nat) - (if err then 1 else 0) := rfl
    rw [List.flatten_append, List.length_append, List.flatten_cons, List.length_append, List.length_singleton] at hpl
    rw [if_neg (by rw [bne_iff_ne]; omega)]
    ((try dsimp only); ((with_reducible refine WXs_nil ?_); (try dsimp only)))
    ((try dsimp only); (with_reducible refine WXs_cons ?_))
    ((try dsimp only); (with_reducible refine WX_Assign (hs := ?hsz503) (by assumption) ?hkz503 ?_); (case hsz503 => intro _; rfl); (case hkz503 => (have hh := In.scope ‹In _ _ _›; exact kindE hh (by kernel_rfl))))
    refine W_Call (hplain := by intro _; rfl) okY ?_
    refine W_gl okY hKY (by (have hh := In.scope ‹In _ _ _›; exact kindE hh (by kernel_rfl))) (g_bare _) (by decide +kernel) ?_
    refine ⟨_, rfl, keeps_fn hKY (by kernel_rfl), ?_⟩
    refine WA_cons ?_
    ((try dsimp only); ((with_reducible refine W_local (d := ?dz505) (by assumption) ?hkz505 ?hlz505 ?qz505 ?hdz505); (case hkz505 => (have hh := In.scope ‹In _ _ _›; exact kindE hh (by kernel_rfl))); (case hlz505 => ((with_reducible exact lk_put_self))); (case hdz505 => decide +kernel); (try dsimp only)))
    refine WA_nil ?_
    refine c_bare (n := N) okY hKY hPY hcY sp h2 ?_
    ((try dsimp only); (with_reducible refine WXs_cons ?_))
    ((try dsimp only); (with_reducible refine WX_Assign (hs := ?hsz507) (by assumption) ?hkz507 ?_); (case hsz507 => intro _; rfl); (case hkz507 => (have hh := In.scope ‹In _ _ _›; exact kindE hh (by kernel_rfl))))
    refine W_ListO okY ?_
    refine WA_nil ⟨by simp, fun b hb => ?_⟩
    have hb1 : upd σ.hp dx (.dict (tokFs l j e)) b = none := hb
    have hbd : b ≠ dx := fun z => by rw [z, upd_self] at hb1; cases hb1
    have hb0 : σ.hp b = none := by rw [upd_ne hbd] at hb1; exact hb1
    have hba : b ≠ a := fun z => by rw [z, t1] at hb0; cases hb0
    ((try dsimp only); (with_reducible refine WXs_cons ?_))
    refine WX_While okY hI.env (RInv l lab (pl l.length err (C ++ [40] :: S1)) err P o σ.hp a dx b (.str C.flatten)) (fun k σ' inv => ?_) m ⟨j, e, S1, [], o, rd1, w, by cases o <;> rfl, by rw [List.length_nil]; omega, rfl, by ((with_reducible refine lkp_skip ?hne5z509 ?hrest5z509); (case hne5z509 => decide +kernel); (with_reducible refine lkp_skip ?hne4z509 ?hrest4z509); (case hne4z509 => decide +kernel); (with_reducible refine lkp_skip ?hne3z509 ?hrest3z509); (case hne3z509 => decide +kernel); (with_reducible refine lkp_skip ?hne2z509 ?hrest2z509); (case hne2z509 => decide +kernel); (with_reducible exact lk_hit)), by ((with_reducible refine lkp_skip ?hne4z510 ?hrest4z510); (case hne4z510 => decide +kernel); (with_reducible refine lkp_skip ?hne3z510 ?hrest3z510); (case hne3z510 => decide +kernel); (with_reducible refine lkp_skip ?hne2z510 ?hrest2z510); (case hne2z510 => decide +kernel); (with_reducible exact lk_put_self)), by ((with_reducible refine lkp_skip ?hne2z511 ?hrest2z511); (case hne2z511 => decide +kernel); (with_reducible exact lk_put_self)), by ((with_reducible exact lk_put_self))⟩
    obtain ⟨loc, hp⟩ := σ'
    obtain ⟨j, dd, S', acc, o', rd', w', eo, hS', eh, et, ep, el, er⟩ := inv
    dsimp only at eh et ep el er
    have tk' : Tk hp a dx l j dd := eh ▸ ⟨by rw [upd_ne hba.symm, upd_ne had]; exact t1, by rw [upd_ne hbd.symm, upd_self], tk.nn⟩
    have hpb : hp b = some (.lst acc) := by rw [eh, upd_self]
    have com : ∀ D, upd hp dx D = upd (upd σ.hp dx D) b (.lst acc) := fun D => by rw [eh]; exact upd_com hbd _ _ _
    have esc : o' = none → ∀ D' j e, (∃ hp', (∀ c o, hp' c = some o → upd (upd σ.hp dx (.dict (tokFs l j e))) b D' c = some o) ∧ E (.ref CP) ⟨σ.loc, hp'⟩) := fun h D' j e => by
      subst h
      rw [show o = none from eo] at q
      exact ⟨_, fun c o z => upd_sub hbd hb0 _ _ c o z, q j e⟩
    refine WT_Not ?_
    refine WT_value (he := by intro _ _; rfl) ?_
    refine W_Method (hbase := by intro _; rfl) (hfew := by intro _; rfl) (hline := by rfl) (hplain := by intro _; rfl) okY ?_
    ((try dsimp only); ((with_reducible refine W_local (d := ?dz513) (by assumption) ?hkz513 ?hlz513 ?qz513 ?hdz513); (case hkz513 => (have hh := In.scope ‹In _ _ _›; exact kindE hh (by kernel_rfl))); (case hlz513 => ((with_reducible assumption))); (case hdz513 => decide +kernel); (try dsimp only)))
    refine getm_inst okY tk'.inst tk'.dict (hKY ▸ km_match _) (by kernel_rfl) ⟨keeps_fn hKY (by kernel_rfl), ?_⟩
    refine WA_cons (W_str s_rpar ?_)
    refine WA_nil ?_
    refine c_match (n := N + 1) okY hKY hPY hcY tk' hl rd' ?_
    cases w'.turn with
    | done R e h eo' =>
      subst e
      rw [List.head?_cons, if_pos rfl, List.tail_cons, if_neg h]
      intro j1 d1 rd2
      refine t_bool ?_
      rw [if_neg (by decide)]
      rw [eo, eo'] at q
      ((try dsimp only); ((with_reducible refine WXs_nil ?_); (try dsimp only)))
      ((try dsimp only); (with_reducible refine WXs_cons ?_))
      ((try dsimp only); (with_reducible refine WX_Return ?_))
      refine W_List ?_
      refine WA_cons ?_
      ((try dsimp only); ((with_reducible refine W_local (d := ?dz517) (by assumption) ?hkz517 ?hlz517 ?qz517 ?hdz517); (case hkz517 => (have hh := In.scope ‹In _ _ _›; exact kindE hh (by kernel_rfl))); (case hlz517 => ((with_reducible assumption))); (case hdz517 => decide +kernel); (try dsimp only)))
      refine WA_cons ?_
      ((try dsimp only); ((with_reducible refine W_local (d := ?dz518) (by assumption) ?hkz518 ?hlz518 ?qz518 ?hdz518); (case hkz518 => (have hh := In.scope ‹In _ _ _›; exact kindE hh (by kernel_rfl))); (case hlz518 => ((with_reducible assumption))); (case hdz518 => decide +kernel); (try dsimp only)))
      refine WA_cons ?_
      ((try dsimp only); ((with_reducible refine W_local (d := ?dz519) (by assumption) ?hkz519 ?hlz519 ?qz519 ?hdz519); (case hkz519 => (have hh := In.scope ‹In _ _ _›; exact kindE hh (by kernel_rfl))); (case hlz519 => ((with_reducible assumption))); (case hdz519 => decide +kernel); (try dsimp only)))
      refine WA_nil ⟨by simp, ?_⟩
      have qq := q j1 d1 rd2
      dsimp only at qq
      rw [List.append_nil] at qq
      refine hQ1 _ _ ⟨_, _, fun c o z => ?_, .lst (.cons (.refl _) (.cons (.refl _) (.cons (.own (ds := acc) ?_ ?_ (FzDs.refl _)) .nil))), qq⟩
      · show upd hp dx _ c = _
        rw [com]; exact upd_sub hbd hb0 _ _ c o z
      · show upd hp dx _ b = _
        rw [com, upd_self]
      · rw [upd_ne hbd]; exact hb0
    | stop e h eo' =>
      subst e
      rw [List.head?_cons, if_pos rfl, List.tail_cons, if_pos ⟨rfl, h⟩]
      refine hE1 _ _ ?_
      show ∃ hp' : Addr → Option HO, (∀ c o, hp' c = some o → hp c = some o) ∧ _
      rw [eh]
      exact esc eo' _ j dd
    | more o₁ h r no yes =>
      rw [if_neg h]
      refine t_bool ?_
      rw [if_pos (by decide)]
      refine W.hideQ fun Q2 hQ2 => ?_
      ((try dsimp only); (with_reducible refine WXs_cons ?_))
      refine WX_Expr (hs := by intro _; rfl) okY ?_
      refine W_Method (hbase := by intro _; rfl) (hfew := by intro _; rfl) (hline := by rfl) (hplain := by intro _; rfl) okY ?_
      ((try dsimp only); ((with_reducible refine W_local (d := ?dz521) (by assumption) ?hkz521 ?hlz521 ?qz521 ?hdz521); (case hkz521 => (have hh := In.scope ‹In _ _ _›; exact kindE hh (by kernel_rfl))); (case hlz521 => ((with_reducible assumption))); (case hdz521 => decide +kernel); (try dsimp only)))
      refine gm_append hpb ⟨keeps_builtin, ?_⟩
      refine WA_cons ?_
      refine W_Call (hplain := by intro _; rfl) okY ?_
      refine W_gl okY hKY (by (have hh := In.scope ‹In _ _ _›; exact kindE hh (by kernel_rfl))) (g_read _) (by decide +kernel) ?_
      refine ⟨_, rfl, keeps_fn hKY (by kernel_rfl), ?_⟩
      refine WA_cons ?_
      ((try dsimp only); ((with_reducible refine W_local (d := ?dz523) (by assumption) ?hkz523 ?hlz523 ?qz523 ?hdz523); (case hkz523 => (have hh := In.scope ‹In _ _ _›; exact kindE hh (by kernel_rfl))); (case hlz523 => ((with_reducible assumption))); (case hdz523 => decide +kernel); (try dsimp only)))
      refine WA_nil ?_
      refine IH okY hKY hPY hcY tk' rd' (by omega) r ?_
      cases o₁ with
      | none =>
        intro j1 d1
        refine hE1 _ _ ?_
        show ∃ hp' : Addr → Option HO, (∀ c o, hp' c = some o → upd hp dx _ c = some o) ∧ _
        rw [com]
        exact esc (no rfl) _ j1 d1
      | some ts =>
        obtain ⟨t, S2⟩ := ts
        obtain ⟨hlt, k', o2, hk, w2, eo2⟩ := yes t S2 rfl
        intro j1 d1 rd2
        refine WA_nil ?_
        refine c_append okY (ds := acc) (by show upd hp dx _ b = _; rw [com, upd_self]) (by omega) ?_
        ((try dsimp only); ((with_reducible refine WXs_nil ?_); (try dsimp only)))
        refine hQ2 _ _ ⟨k', hk, j1, d1, S2, acc ++ [t], o2, rd2, w2, ?_, ?_, ?_, by ((with_reducible assumption)), by ((with_reducible assumption)), by ((with_reducible assumption)), by ((with_reducible assumption))⟩
        · rw [eo, eo2]
          cases o2 with
          | none => rfl
          | some p => show some (acc ++ t :: p.1, p.2) = some ((acc ++ [t]) ++ p.1, p.2); rw [List.append_assoc]; rfl
        · rw [List.length_append, List.length_singleton]; omega
        · show upd (upd hp dx _) b _ = _
          rw [com, upd_upd]
theorem c_read {pp : Params} {l : List Nat} {err : Bool} (hl : l.length ≤ 1000) (N : Nat) : ∀ d, ReadC pp (N + d + 5) l err (RO l.length err d)
  | 0 => c_read_step hl fun ok hK hP hc tk rd hS po q => po.elim
  | d + 1 => c_read_step (N := N + d + 1) hl (c_read hl N d)
end Mine
namespace Mine
open PySem PySem.W PySem.Calls PySem.Spec PyProof.Rows
theorem match_perr {pp : Params} {X : Cx} (hK : X.K = KK pp) : Match X (.ref CP) (.ref CP) true := by
  obtain ⟨nm, qn, N, bs, hdct, sn, sub, ab, col, dd, k0, k1, k2, k3, k5, newId, hC, rfl⟩ := kc_exc pp
  exact match_own (by rw [hK]; exact hC) (by rw [hK]; kernel_rfl) (by rw [hK]; kernel_rfl) (by rw [hK]; kernel_rfl)
theorem c_refused {pp : Params} {X : Cx} {n : Nat} {σ : S} {E : Value → S → Prop} {l : List Nat} {Q : V → S → Prop} (ok : Ok X (n + 10)) (hK : X.K = KK pp) (hP : X.prog = PySem.Challenge.rw_ij0062_02.row.prog) (hc : X.ctx = none) (hl : l.length ≤ 1000) (nn : 10 ∉ l) (ro : RO l.length (rs l).2 4 (rs l).1 none)
    (q : Q (.bool true) σ) : Call X (.ref 179) [.str l] σ Q E := by
  refine Call.fzD ?_
  refine Call.fn' (names := ["text"]) (loc0 := [("text", .str l)]) (n := n + 9) ok hK (f_refused _) (bind1 fun v _ => by kernel_rfl) (by kernel_rfl) (by decide +kernel) rfl rfl fun Y okY hI => ?_
  have hKY : Y.K = KK pp := hI.K.trans hK
  have hcY : Y.ctx = none := hI.ctx.trans hc
  have hPY := hI.prog.trans hP
  conv in bodyAt _ _ => whnf
  refine W.hide fun Q1 E1 hQ1 hE1 => ?_
  ((try dsimp only); (with_reducible refine WXs_cons ?_))
  refine WX_Try (n := n + 9) (c := .ref CP) okY hI.env (ht_gl okY hKY (by (have hh := In.scope ‹In _ _ _›; exact kindE hh (by kernel_rfl))) (g_perr _) (by decide +kernel)) ?_
  refine W.hide fun Q2 E2 hQ2 hE2 => ?_
  have bad : ∀ hp1 : Addr → Option HO, (∀ b o, σ.hp b = some o → hp1 b = some o) → E2 (.ref CP) ⟨[("text", .str l)], hp1⟩ := fun hp1 sub => hE2 _ _ (by
    refine ⟨true, match_perr hKY, ?_⟩
    rw [if_pos rfl]
    intro ee okm
    ((try dsimp only); (with_reducible refine WXs_cons ?_))
    ((try dsimp only); (with_reducible refine WX_Return ?_))
    ((try dsimp only); ((with_reducible refine W_bool ?_); (try dsimp only)))
    exact hQ1 _ _ ⟨σ.hp, _, sub, .refl _, q⟩)
  ((try dsimp only); (with_reducible refine WXs_cons ?_))
  refine WX_Expr (hs := by intro _; rfl) okY ?_
  refine W_Call (hplain := by intro _; rfl) okY ?_
  refine W_gl okY hKY (by (have hh := In.scope ‹In _ _ _›; exact kindE hh (by kernel_rfl))) (g_read _) (by decide +kernel) ?_
  refine ⟨_, rfl, keeps_fn hKY (by kernel_rfl), ?_⟩
  refine WA_cons ?_
  refine W_Call (hplain := by intro _; rfl) okY ?_
  refine W_gl okY hKY (by (have hh := In.scope ‹In _ _ _›; exact kindE hh (by kernel_rfl))) (g_tok _) (by decide +kernel) ?_
  refine ⟨_, rfl, keeps_fn hKY (by kernel_rfl), ?_⟩
  refine WA_cons ?_
  ((try dsimp only); ((with_reducible refine W_local (d := ?dz537) (by assumption) ?hkz537 ?hlz537 ?qz537 ?hdz537); (case hkz537 => (have hh := In.scope ‹In _ _ _›; exact kindE hh (by kernel_rfl))); (case hlz537 => ((with_reducible exact lk_hit))); (case hdz537 => decide +kernel); (try dsimp only)))
  refine WA_nil ?_
  refine c_new (n := n + 6) okY hKY hPY hcY hl nn fun a dx hp' ha0 hdx0 sub => ?_
  have hsg := sg_rs (l := l) (i := 0) (Nat.zero_le _)
  rw [List.drop_zero] at hsg
  cases hs : sg l 0 with
  | none => exact bad _ sub
  | some je =>
    obtain ⟨j, dd⟩ := je
    rw [hs] at hsg
    dsimp only at hsg ⊢
    intro tk
    refine WA_nil ?_
    have hf := congrArg List.length (rs_flat l)
    rw [List.length_append] at hf
    refine c_read hl n 4 okY hKY hPY hcY tk hsg ?_ ro fun j e => bad _ fun b o z => ?_
    · rw [← hf]
      split <;> simp only [List.length_cons, List.length_nil] <;> omega
    · show upd hp' dx _ b = _
      rw [upd_ne (hp_ne z hdx0).symm]; exact sub b o z
inductive AInv (T : V → List V → Prop) (row tot : List V) (hp0 : Addr → Option HO) (b : Addr) (i : Nat) (σ' : S) : Prop
  | mk (acc rest : List V) (eh : σ'.hp = upd hp0 b (.lst acc)) (r : TrR T (row.drop i) rest) (e : acc ++ rest = tot) (en : lk σ'.loc "nodes" = some (.ref b))
theorem c_all {pp : Params} : ∀ (d : Nat) (v : V) (l : List V), NdT d v l → l.length ≤ 1000 → ∀ {X : Cx} {n : Nat} {σ : S} {E : Value → S → Prop} {Q : V → S → Prop} (ok : Ok X (n + d)) (hK : X.K = KK pp) (hc : X.ctx = none) (q : Q (.lst l) σ), Call X (.ref 186) [v] σ Q E
  | 0, v, l, h, hl => h.elim
  | d + 1, v, l, h, hl => by
    rename_i X n σ E Q
    intro ok hK hc q
    refine Call.fzD ?_
    refine Call.fn' (names := ["node"]) (loc0 := [("node", v)]) (n := n + d) ok hK (f_all _) (bind1 fun v _ => by kernel_rfl) (by kernel_rfl) (by decide +kernel) rfl rfl fun Y okY hI => ?_
    have hKY : Y.K = KK pp := hI.K.trans hK
    have hcY : Y.ctx = none := hI.ctx.trans hc
    conv in bodyAt _ _ => whnf
    refine W.hide fun Q1 E1 hQ1 hE1 => ?_
    cases h with | @mk va vb row ls ha r => ?_
    ((try dsimp only); (with_reducible refine WXs_cons ?_))
    ((try dsimp only); (with_reducible refine WX_Assign (hs := ?hsz539) (by assumption) ?hkz539 ?_); (case hsz539 => intro _; rfl); (case hkz539 => (have hh := In.scope ‹In _ _ _›; exact kindE hh (by kernel_rfl))))
    refine W_ListO okY ?_
    refine WA_cons ?_
    ((try dsimp only); ((with_reducible refine W_local (d := ?dz540) (by assumption) ?hkz540 ?hlz540 ?qz540 ?hdz540); (case hkz540 => (have hh := In.scope ‹In _ _ _›; exact kindE hh (by kernel_rfl))); (case hlz540 => ((with_reducible exact lk_hit))); (case hdz540 => decide +kernel); (try dsimp only)))
    refine WA_nil ⟨by simp, fun b hb => ?_⟩
    have hb' : σ.hp b = none := hb
    ((try dsimp only); (with_reducible refine WXs_cons ?_))
    refine WX_For (hs := by intro _ _; rfl) okY hcY hI.env (by (have hh := In.scope ‹In _ _ _›; exact kindE hh (by kernel_rfl))) (AInv (NdT d) row (.lst [va, vb, .lst row] :: ls) σ.hp b) ?_
    refine wit_val ?_
    ((try dsimp only); (with_reducible refine W_Sub ?_))
    ((try dsimp only); ((with_reducible refine W_local (d := ?dz544) (by assumption) ?hkz544 ?hlz544 ?qz544 ?hdz544); (case hkz544 => (have hh := In.scope ‹In _ _ _›; exact kindE hh (by kernel_rfl))); (case hlz544 => ((with_reducible refine lkp_skip ?hne2z544 ?hrest2z544); (case hne2z544 => decide +kernel); (with_reducible exact lk_hit))); (case hdz544 => decide +kernel); (try dsimp only)))
    ((try dsimp only); ((with_reducible refine W_int ?_); (try dsimp only)))
    refine s_lstItem (hs := by intro _ _ _; with_unfolding_all rfl) (k := 2) (.val _) (by decide) rfl ?_
    refine ⟨_, _, itb_lst, ⟨_, ls, rfl, r, rfl, by ((with_reducible exact lk_put_self))⟩, fun i σ' wr hi inv okw => ?_, fun σ' inv => ?_⟩
    · obtain ⟨loc, hp⟩ := σ'
      obtain ⟨acc, rest, eh, r, e, en⟩ := inv
      dsimp only at eh en
      rw [List.drop_eq_getElem_cons hi] at r
      rw [show row.getD i .none = row[i] from by rw [List.getD_eq_getElem?_getD, List.getElem?_eq_getElem hi]; rfl]
      generalize row[i] = u at *
      cases r with | @cons _ _ l1 l2 h1 r => ?_
      have hlen := congrArg List.length e
      rw [List.length_append, List.length_append] at hlen
      refine W.hideQ fun Q2 hQ2 => ?_
      ((try dsimp only); (with_reducible refine WXs_cons ?_))
      ((try dsimp only); (with_reducible refine WX_Aug (d := ?dz548) (by assumption) ?hkz548 ?hlz548 ?_); (case hkz548 => (have hh := In.scope ‹In _ _ _›; exact kindE hh (by kernel_rfl))); (case hlz548 => ((with_reducible refine lkp_skip ?hne2z548 ?hrest2z548); (case hne2z548 => decide +kernel); (with_reducible assumption))))
      refine W_Call (hplain := by intro _; rfl) okw ?_
      refine W_gl okw hKY (by (have hh := In.scope ‹In _ _ _›; exact kindE hh (by kernel_rfl))) (g_all _) (by decide +kernel) ?_
      refine ⟨_, rfl, keeps_fn hKY (by kernel_rfl), ?_⟩
      refine WA_cons ?_
      ((try dsimp only); ((with_reducible refine W_local (d := ?dz550) (by assumption) ?hkz550 ?hlz550 ?qz550 ?hdz550); (case hkz550 => (have hh := In.scope ‹In _ _ _›; exact kindE hh (by kernel_rfl))); (case hlz550 => ((with_reducible exact lk_put_self))); (case hdz550 => decide +kernel); (try dsimp only)))
      refine WA_nil ?_
      refine c_all d u l1 h1 (by omega) (n := n) okw hKY hcY ?_
      refine o_iaddl (as := acc) okw (by show hp b = _; rw [eh, upd_self]) (.val _) (by omega) ?_
      ((try dsimp only); ((with_reducible refine WXs_nil ?_); (try dsimp only)))
      exact hQ2 _ _ ⟨acc ++ l1, l2, by show upd hp b _ = _; rw [eh, upd_upd], r, by rw [List.append_assoc]; exact e, by ((with_reducible exact lk_put_self))⟩
    · obtain ⟨loc, hp⟩ := σ'
      obtain ⟨acc, rest, eh, r, e, en⟩ := inv
      dsimp only at eh en
      rw [List.drop_length] at r
      cases r
      rw [List.append_nil] at e
      subst e
      ((try dsimp only); ((with_reducible refine WXs_nil ?_); (try dsimp only)))
      ((try dsimp only); (with_reducible refine WXs_cons ?_))
      ((try dsimp only); (with_reducible refine WX_Return ?_))
      ((try dsimp only); ((with_reducible refine W_local (d := ?dz556) (by assumption) ?hkz556 ?hlz556 ?qz556 ?hdz556); (case hkz556 => (have hh := In.scope ‹In _ _ _›; exact kindE hh (by kernel_rfl))); (case hlz556 => ((with_reducible assumption))); (case hdz556 => decide +kernel); (try dsimp only)))
      refine hQ1 _ _ ⟨σ.hp, _, fun c o z => ?_, .own (by show hp b = _; rw [eh, upd_self]) hb' (FzDs.refl _), q⟩
      show hp c = _
      rw [eh, upd_ne (hp_ne z hb').symm]; exact z
end Mine
namespace Mine
open PySem PySem.W PySem.Calls PySem.Spec PyProof.Rows
theorem slc_to {α : Type} (l : List α) (k : Nat) : slc l none (some (k : Int)) = l.take k := by
  unfold slc kms_lo kms_hi
  dsimp only
  rw [if_neg (by omega)]
  simp
noncomputable def Tl : List (List Nat) := [[], [97], [41], [92, 97]]
theorem s_ba : (Str.ofString "\\a").cps.toList = [92, 97] := by decide +kernel
noncomputable def tlS (t : List Nat) : List (List Nat) := if t.isEmpty then [] else [t]
noncomputable def tlV (t : List Nat) : V := if t.isEmpty then .none else .str t
structure TlOk (t : List Nat) : Prop where
  fit : Fit (tlS t)
  flat : (tlS t).flatten = t
  len : t.length ≤ 2
  shp : ∀ n : Int, Shp (.tup [.int n, tlV t])
theorem fit1 (t : List Nat) (h : Gd t ∧ ∀ c ∈ t, c < 128 ∧ c ≠ 10) : Fit [t] := fun s hs => by rw [List.mem_singleton.mp hs]; exact h
theorem tl_ok : ∀ t ∈ Tl, TlOk t := by
  intro t ht
  have ht' : t = [] ∨ t = [97] ∨ t = [41] ∨ t = [92, 97] := by simpa [Tl] using ht
  rcases ht' with rfl | rfl | rfl | rfl
  · exact ⟨fun s hs => (nomatch hs), rfl, by decide, fun n => ⟨rfl, by kernel_rfl⟩⟩
  · exact ⟨fit1 _ ⟨.inl ⟨97, by decide, rfl⟩, by decide⟩, rfl, by decide, fun n => ⟨rfl, by kernel_rfl⟩⟩
  · exact ⟨fit1 _ ⟨.inl ⟨41, by decide, rfl⟩, by decide⟩, rfl, by decide, fun n => ⟨rfl, by kernel_rfl⟩⟩
  · exact ⟨fit1 _ ⟨.inr ⟨97, rfl⟩, by decide⟩, rfl, by decide, fun n => ⟨rfl, by kernel_rfl⟩⟩
theorem Rd.tail {l t : List Nat} {j : Nat} {e : V} (x : Rd l j false e (tlS t)) : e = tlV t := by
  unfold tlS at x
  unfold tlV
  split
  · rename_i h; rw [if_pos h] at x; cases x; rfl
  · rename_i h; rw [if_neg h] at x; cases x; rfl
theorem w_or_none {X : Cx} {n : Nat} {σ : S} {E : Value → S → Prop} {Q : V → S → Prop} {tl : List Nat} {x : Str} {p1 p2 pos : Pos} {k : Nat} (ok : Ok X n) (hx : X.env.kindOf x = some .local) (hl : lk σ.loc x = some (.str tl)) (hd : (x == ("__debug__" : Str)) = false) (hn : tl.length ≤ 10) (q : Q (tlV tl) σ) : WE X (.BoolOp .Or [.Name x p1, .Constant .none k p2] pos) σ Q E := by
  refine W_Or (W_local ok hx hl (t_str (by omega) ?_) hd)
  unfold tlV at q
  split at q
  · rename_i h
    rw [h, if_neg (by decide)]
    exact W_none q
  · rename_i h
    rw [Bool.not_eq_true] at h
    rw [h, if_pos (by decide)]
    exact q
inductive LInv (l text : List Nat) (a dx : Addr) (i : Nat) (σ' : S) : Prop
  | mk (j : Nat) (e : V) (tk : Tk σ'.hp a dx l j e) (et : lk σ'.loc "t" = some (.ref a)) (ex : lk σ'.loc "text" = some (.str text))
theorem w_law {pp : Params} {X : Cx} {n : Nat} {ns : List Int} (ok : Ok X (n + 20)) (hK : X.K = KK pp) (hP : X.prog = PySem.Challenge.rw_ij0062_02.row.prog) (hc : X.ctx = none) (hI : In X X (fdAt (KK pp) 193)) (hns : ns.length ≤ 63) :
    WXs X (bodyAt (KK pp) 193) ⟨[("script", .lst (ns.map .int))], fun _ => none⟩ (fun fl _ => fl = .ret (.bool true)) F0 := by
  conv in bodyAt _ _ => whnf
  refine W.hideQ fun Q1 hQ1 => ?_
  ((try dsimp only); (with_reducible refine WXs_cons ?_))
  refine WX_AssignN ok hc (.cons (by (have hh := In.scope ‹In _ _ _›; exact kindE hh (by kernel_rfl))) (.cons (by (have hh := In.scope ‹In _ _ _›; exact kindE hh (by kernel_rfl))) .nil)) ?_ (fun _ => rfl) (fun _ => rfl)
  refine W_Call (hplain := by intro _; rfl) ok ?_
  refine W_gl ok hK (by (have hh := In.scope ‹In _ _ _›; exact kindE hh (by kernel_rfl))) (g_written _) (by decide +kernel) ?_
  refine ⟨_, rfl, keeps_fn hK (by kernel_rfl), ?_⟩
  refine WA_cons ?_
  refine W_Call (hplain := by intro _; rfl) ok ?_
  refine W_gl ok hK (by (have hh := In.scope ‹In _ _ _›; exact kindE hh (by kernel_rfl))) (g_nodes _) (by decide +kernel) ?_
  refine ⟨_, rfl, keeps_fn hK (by kernel_rfl), ?_⟩
  refine WA_cons ?_
  ((try dsimp only); (with_reducible refine W_BinOp ?_))
  refine W_SliceLst (ht := by intro _ _; rfl) ?_
  ((try dsimp only); ((with_reducible refine W_local (d := ?dz563) (by assumption) ?hkz563 ?hlz563 ?qz563 ?hdz563); (case hkz563 => (have hh := In.scope ‹In _ _ _›; exact kindE hh (by kernel_rfl))); (case hlz563 => ((with_reducible exact lk_hit))); (case hdz563 => decide +kernel); (try dsimp only)))
  refine WP_none ?_
  refine WP_some ?_
  ((try dsimp only); ((with_reducible refine W_int ?_); (try dsimp only)))
  refine ⟨_, _, _, .val _, by rw [List.length_map]; omega, .none, .int _, ?_⟩
  refine W_List ?_
  refine WA_cons ?_
  refine W_Call (hplain := by intro _; rfl) ok ?_
  refine W_bi (v := .builtin "sum") ok hK (by (have hh := In.scope ‹In _ _ _›; exact kindE hh (by kernel_rfl))) (b_sum _) (by kernel_rfl) (by decide +kernel) (by decide +kernel) ?_
  refine ⟨_, rfl, keeps_builtin, ?_⟩
  refine WA_cons ?_
  ((try dsimp only); ((with_reducible refine W_local (d := ?dz566) (by assumption) ?hkz566 ?hlz566 ?qz566 ?hdz566); (case hkz566 => (have hh := In.scope ‹In _ _ _›; exact kindE hh (by kernel_rfl))); (case hlz566 => ((with_reducible exact lk_hit))); (case hdz566 => decide +kernel); (try dsimp only)))
  refine WA_nil ?_
  refine c_sum ok hc ?_
  refine WA_nil ⟨by simp, ?_⟩
  refine o_addl (.val _) (.val _) (by have := slc_len (ns.map V.int) none (some 3); rw [List.length_map] at this; rw [List.length_singleton]; omega) ?_
  rw [show slc (ns.map V.int) none (some 3) ++ [.int ns.sum] = (ns.take 3 ++ [ns.sum]).map V.int from by rw [show (3 : Int) = ((3 : Nat) : Int) from rfl, slc_to, List.map_append, List.map_take]; rfl]
  refine WA_nil ?_
  have hx4 : (ns.take 3 ++ [ns.sum]).length ≤ 4 := by rw [List.length_append, List.length_take, List.length_singleton]; omega
  have hx0 : 0 < (ns.take 3 ++ [ns.sum]).length := by simp
  generalize ns.take 3 ++ [ns.sum] = xs at hx4 hx0 ⊢
  refine c_nodes (n := n + 18) ok hK hc hx4 fun nds g hnl => ?_
  rw [← hnl] at hx4 hx0
  refine WA_cons ?_
  ((try dsimp only); ((with_reducible refine W_int ?_); (try dsimp only)))
  refine WA_cons ?_
  ((try dsimp only); ((with_reducible refine W_int ?_); (try dsimp only)))
  refine WA_nil ?_
  refine c_written g hx4 4 0 0 hx0 (by omega) (by decide) (n := n + 16) ok hK hc ⟨_, rfl, rfl, ?_⟩
  dsimp only [puts]
  have hft := wsg_fit g 4 0 hx0 (by omega)
  have hsh := (wtr_pld g 4 0 0 hx0 (by omega)).shp (by decide)
  have hbd : bd 4 = 240 := rfl
  ((try dsimp only); (with_reducible refine WXs_cons ?_))
  ((try dsimp only); (with_reducible refine WX_Assign (hs := ?hsz570) (by assumption) ?hkz570 ?_); (case hsz570 => intro _; rfl); (case hkz570 => (have hh := In.scope ‹In _ _ _›; exact kindE hh (by kernel_rfl))))
  ((try dsimp only); (with_reducible refine W_Sub ?_))
  refine W_Tuple ?_
  refine WA_cons (W_str s_e ?_)
  refine WA_cons (W_str s_a ?_)
  refine WA_cons (W_str s_rpar ?_)
  refine WA_cons (W_str s_ba ?_)
  refine WA_nil ⟨by simp, ?_⟩
  ((try dsimp only); (with_reducible refine W_BinOp ?_))
  refine W_Call (hplain := by intro _; rfl) ok ?_
  refine W_bi (v := .builtin "len") ok hK (by (have hh := In.scope ‹In _ _ _›; exact kindE hh (by kernel_rfl))) (b_len _) (by kernel_rfl) (by decide +kernel) (by decide +kernel) ?_
  refine ⟨_, rfl, keeps_builtin, ?_⟩
  refine WA_cons ?_
  ((try dsimp only); ((with_reducible refine W_local (d := ?dz574) (by assumption) ?hkz574 ?hlz574 ?qz574 ?hdz574); (case hkz574 => (have hh := In.scope ‹In _ _ _›; exact kindE hh (by kernel_rfl))); (case hlz574 => ((with_reducible refine lkp_skip ?hne3z574 ?hrest3z574); (case hne3z574 => decide +kernel); (with_reducible refine lkp_skip ?hne2z574 ?hrest2z574); (case hne2z574 => decide +kernel); (with_reducible exact lk_hit))); (case hdz574 => decide +kernel); (try dsimp only)))
  refine WA_nil ?_
  refine c_lenL (.val _) (by rw [List.length_map]; omega) ?_
  ((try dsimp only); ((with_reducible refine W_int ?_); (try dsimp only)))
  refine o_modi (by decide) ?_
  obtain ⟨k1, e1, l1⟩ := fm ((ns.map V.int).length : Int) (m := 4) (by decide)
  rw [show ((ns.map V.int).length : Int).fmod 4 = (k1 : Int) from e1]
  obtain ⟨tl, htl⟩ : ∃ t, Tl[k1]? = some t := ⟨_, List.getElem?_eq_getElem l1⟩
  refine s_tupItem (hs := by intro _ _ _; with_unfolding_all rfl) (d := .str tl) (by omega) (by show (Tl.map V.str)[k1]? = _; rw [List.getElem?_map, htl]; rfl) ?_
  obtain ⟨tf, tfl, tlen, tsh⟩ := tl_ok tl (List.mem_of_getElem? htl)
  clear htl e1
  have hwf : Fit (wsg nds 4 0 ++ tlS tl) := hft.1.app tf
  have hwl : (wsg nds 4 0 ++ tlS tl).flatten = (wsg nds 4 0).flatten ++ tl := by rw [List.flatten_append, tfl]
  have hrs := rs_good _ fun s hs => (hwf s hs).1
  have hlen := congrArg List.length hwl
  rw [List.length_append] at hlen
  have nn : ∀ T : List (List Nat), Fit T → 10 ∉ T.flatten := fun T hT hm => by
    obtain ⟨s, hs, hm⟩ := List.mem_flatten.mp hm
    exact ((hT s hs).2 10 hm).2 rfl
  ((try dsimp only); (with_reducible refine WXs_cons ?_))
  ((try dsimp only); (with_reducible refine WX_Assign (hs := ?hsz577) (by assumption) ?hkz577 ?_); (case hsz577 => intro _; rfl); (case hkz577 => (have hh := In.scope ‹In _ _ _›; exact kindE hh (by kernel_rfl))))
  refine W_Call (hplain := by intro _; rfl) ok ?_
  refine W_gl ok hK (by (have hh := In.scope ‹In _ _ _›; exact kindE hh (by kernel_rfl))) (g_tok _) (by decide +kernel) ?_
  refine ⟨_, rfl, keeps_fn hK (by kernel_rfl), ?_⟩
  refine WA_cons ?_
  ((try dsimp only); (with_reducible refine W_BinOp ?_))
  ((try dsimp only); ((with_reducible refine W_local (d := ?dz580) (by assumption) ?hkz580 ?hlz580 ?qz580 ?hdz580); (case hkz580 => (have hh := In.scope ‹In _ _ _›; exact kindE hh (by kernel_rfl))); (case hlz580 => ((with_reducible refine lkp_skip ?hne3z580 ?hrest3z580); (case hne3z580 => decide +kernel); (with_reducible refine lkp_skip ?hne2z580 ?hrest2z580); (case hne2z580 => decide +kernel); (with_reducible exact lk_put_self))); (case hdz580 => decide +kernel); (try dsimp only)))
  ((try dsimp only); ((with_reducible refine W_local (d := ?dz581) (by assumption) ?hkz581 ?hlz581 ?qz581 ?hdz581); (case hkz581 => (have hh := In.scope ‹In _ _ _›; exact kindE hh (by kernel_rfl))); (case hlz581 => ((with_reducible exact lk_put_self))); (case hdz581 => decide +kernel); (try dsimp only)))
  refine o_adds (by omega) ?_
  rw [← hwl]
  refine WA_nil ?_
  have hL : (wsg nds 4 0 ++ tlS tl).flatten.length ≤ 1000 := by omega
  refine c_new (n := n + 17) ok hK hP hc hL (nn _ hwf) fun a dx hp' _ _ _ => ?_
  have ro1 := ro_whole g ((wsg nds 4 0 ++ tlS tl).flatten.length : Nat) false 4 0 0 (tlS tl) hx0 (by omega) (by simp) (by unfold pl; simp)
  obtain ⟨nl', htr, hnl', hna⟩ := tr_all g (wsg nds 4 0 ++ tlS tl) 4 0 0 [] (tlS tl) (by decide) hx0 (by omega) rfl rfl
  have hnb : nb 4 = 40 := rfl
  have hsg := sg_rs (l := (wsg nds 4 0 ++ tlS tl).flatten) (i := 0) (Nat.zero_le _)
  rw [List.drop_zero, hrs] at hsg
  have hpre := fun m hm => ro_pref g (((wsg nds 4 0).flatten.take m).length : Nat) (rs ((wsg nds 4 0).flatten.take m)).2 4 0 _ hx0 (by omega) (rs_take (wsg nds 4 0) m fun s hs => (hft.1 s hs).1) fun e => absurd e (rs_short (fun s hs => (hft.1 s hs).1) hm)
  have htn := nn _ hft.1
  have hrd := c_read (pp := pp) (err := false) hL
  have hgl : ∀ pre S, wsg nds 4 0 ++ tlS tl = pre ++ S → pre.flatten.length ≤ (wsg nds 4 0 ++ tlS tl).flatten.length ∧ rs ((wsg nds 4 0 ++ tlS tl).flatten.drop pre.flatten.length) = (S, false) ∧ S.flatten.length ≤ (wsg nds 4 0 ++ tlS tl).flatten.length := fun pre S e => by
    have e2 : (wsg nds 4 0 ++ tlS tl).flatten.length = pre.flatten.length + S.flatten.length := by rw [e, List.flatten_append, List.length_append]
    refine ⟨by omega, ?_, by omega⟩
    rw [e, List.flatten_append, List.drop_left]
    exact rs_good S fun s hs => (hwf s (by rw [e]; exact List.mem_append_right _ hs)).1
  clear hrs
  generalize hW : (wsg nds 4 0 ++ tlS tl).flatten = tx at *
  cases hs : sg tx 0 with
  | none => rw [hs] at hsg; have := congrArg Prod.snd hsg; cases this
  | some je =>
    obtain ⟨j, d0⟩ := je
    rw [hs] at hsg
    dsimp only at hsg ⊢
    intro tk
    ((try dsimp only); (with_reducible refine WXs_cons ?_))
    ((try dsimp only); (with_reducible refine WX_If ?_))
    refine WT_Or2 ?_
    ((try dsimp only); ((with_reducible refine WT_Compare (hm := ?hmz584) ?_); (case hmz584 => with_unfolding_all rfl)))
    refine W_Call (hplain := by intro _; rfl) ok ?_
    refine W_gl ok hK (by (have hh := In.scope ‹In _ _ _›; exact kindE hh (by kernel_rfl))) (g_read _) (by decide +kernel) ?_
    refine ⟨_, rfl, keeps_fn hK (by kernel_rfl), ?_⟩
    refine WA_cons ?_
    ((try dsimp only); ((with_reducible refine W_local (d := ?dz586) (by assumption) ?hkz586 ?hlz586 ?qz586 ?hdz586); (case hkz586 => (have hh := In.scope ‹In _ _ _›; exact kindE hh (by kernel_rfl))); (case hlz586 => ((with_reducible exact lk_put_self))); (case hdz586 => decide +kernel); (try dsimp only)))
    refine WA_nil ?_
    refine hrd (n + 11) 4 ok hK hP hc tk hsg (by rw [hW]; simp) ro1 fun j1 e1 rd1 => ?_
    ((try dsimp only); ((with_reducible refine W_local (d := ?dz587) (by assumption) ?hkz587 ?hlz587 ?qz587 ?hdz587); (case hkz587 => (have hh := In.scope ‹In _ _ _›; exact kindE hh (by kernel_rfl))); (case hlz587 => ((with_reducible refine lkp_skip ?hne3z587 ?hrest3z587); (case hne3z587 => decide +kernel); (with_reducible refine lkp_skip ?hne2z587 ?hrest2z587); (case hne2z587 => decide +kernel); (with_reducible exact lk_put_self))); (case hdz587 => decide +kernel); (try dsimp only)))
    refine o_ned ok hsh hsh (t_bool ?_)
    rw [eqv_self hsh, if_neg (by decide)]
    have tk1 := tk.upd j1 e1
    have hp1 := rd1.posE
    have he1 := rd1.tail
    ((try dsimp only); ((with_reducible refine WT_Compare (hm := ?hmz588) ?_); (case hmz588 => with_unfolding_all rfl)))
    refine W_Tuple ?_
    refine WA_cons ?_
    refine W_Method (hbase := by intro _; rfl) (hfew := by intro _; rfl) (hline := by rfl) (hplain := by intro _; rfl) ok ?_
    ((try dsimp only); ((with_reducible refine W_local (d := ?dz589) (by assumption) ?hkz589 ?hlz589 ?qz589 ?hdz589); (case hkz589 => (have hh := In.scope ‹In _ _ _›; exact kindE hh (by kernel_rfl))); (case hlz589 => ((with_reducible exact lk_put_self))); (case hdz589 => decide +kernel); (try dsimp only)))
    refine getm_inst ok tk1.inst tk1.dict (hK ▸ km_tell _) (by kernel_rfl) ⟨keeps_fn hK (by kernel_rfl), ?_⟩
    refine WA_nil ?_
    refine c_tell (n := n + 19) ok hK tk1 rd1.sgn ?_
    rw [hp1, tfl, show (tx.length : Int) - (tl.length : Nat) - (if false = true then 1 else 0) = ((wsg nds 4 0).flatten.length : Nat) from by rw [if_neg (by decide)]; omega]
    refine WA_cons ?_
    refine W_field (by assumption) ?_ (by decide +kernel) (by ((with_reducible exact lk_put_self))) tk1.inst tk1.dict (hK ▸ kg_next _) (tok_next _ _ _) rd1.lit ?_
    · (have hh := In.scope ‹In _ _ _›; exact kindE hh (by kernel_rfl))
    refine WA_nil ⟨by simp, ?_⟩
    rw [he1]
    refine W_Tuple ?_
    refine WA_cons ?_
    refine W_Call (hplain := by intro _; rfl) ok ?_
    refine W_bi (v := .builtin "len") ok hK (by (have hh := In.scope ‹In _ _ _›; exact kindE hh (by kernel_rfl))) (b_len _) (by kernel_rfl) (by decide +kernel) (by decide +kernel) ?_
    refine ⟨_, rfl, keeps_builtin, ?_⟩
    refine WA_cons ?_
    ((try dsimp only); ((with_reducible refine W_local (d := ?dz593) (by assumption) ?hkz593 ?hlz593 ?qz593 ?hdz593); (case hkz593 => (have hh := In.scope ‹In _ _ _›; exact kindE hh (by kernel_rfl))); (case hlz593 => ((with_reducible refine lkp_skip ?hne4z593 ?hrest4z593); (case hne4z593 => decide +kernel); (with_reducible refine lkp_skip ?hne3z593 ?hrest3z593); (case hne3z593 => decide +kernel); (with_reducible refine lkp_skip ?hne2z593 ?hrest2z593); (case hne2z593 => decide +kernel); (with_reducible exact lk_put_self))); (case hdz593 => decide +kernel); (try dsimp only)))
    refine WA_nil ?_
    refine c_lens (by omega) ?_
    refine WA_cons ?_
    refine w_or_none ok (by (have hh := In.scope ‹In _ _ _›; exact kindE hh (by kernel_rfl))) (by ((with_reducible refine lkp_skip ?hne2z595 ?hrest2z595); (case hne2z595 => decide +kernel); (with_reducible exact lk_put_self))) (by decide +kernel) (by omega) ?_
    refine WA_nil ⟨by simp, ?_⟩
    refine o_ned ok (tsh _) (tsh _) (t_bool ?_)
    rw [eqv_self (tsh _), if_neg (by decide)]
    ((try dsimp only); ((with_reducible refine WXs_nil ?_); (try dsimp only)))
    ((try dsimp only); (with_reducible refine WXs_cons ?_))
    refine WX_For (hs := by intro _ _; rfl) ok hc hI.env (by (have hh := In.scope ‹In _ _ _›; exact kindE hh (by kernel_rfl))) (LInv tx (wsg nds 4 0).flatten a dx) ?_
    refine wit_val ?_
    refine W_Call (hplain := by intro _; rfl) ok ?_
    refine W_gl ok hK (by (have hh := In.scope ‹In _ _ _›; exact kindE hh (by kernel_rfl))) (g_all _) (by decide +kernel) ?_
    refine ⟨_, rfl, keeps_fn hK (by kernel_rfl), ?_⟩
    refine WA_cons ?_
    ((try dsimp only); ((with_reducible refine W_local (d := ?dz600) (by assumption) ?hkz600 ?hlz600 ?qz600 ?hdz600); (case hkz600 => (have hh := In.scope ‹In _ _ _›; exact kindE hh (by kernel_rfl))); (case hlz600 => ((with_reducible refine lkp_skip ?hne3z600 ?hrest3z600); (case hne3z600 => decide +kernel); (with_reducible refine lkp_skip ?hne2z600 ?hrest2z600); (case hne2z600 => decide +kernel); (with_reducible exact lk_put_self))); (case hdz600 => decide +kernel); (try dsimp only)))
    refine WA_nil ?_
    refine c_all 4 _ nl' htr (by omega) (n := n + 16) ok hK hc ?_
    refine ⟨_, _, itb_lst, ⟨j1, _, he1 ▸ tk1, by ((with_reducible exact lk_put_self)), by ((with_reducible refine lkp_skip ?hne4z602 ?hrest4z602); (case hne4z602 => decide +kernel); (with_reducible refine lkp_skip ?hne3z602 ?hrest3z602); (case hne3z602 => decide +kernel); (with_reducible refine lkp_skip ?hne2z602 ?hrest2z602); (case hne2z602 => decide +kernel); (with_reducible exact lk_put_self))⟩, fun i σ' wr hi inv okw => ?_, fun σ' inv => ?_⟩
    · obtain ⟨loc, hp⟩ := σ'
      obtain ⟨j, e, tk, et, ex⟩ := inv
      dsimp only at tk et ex
      obtain ⟨pre, S, R, rest, D, hD, eS, hu, ro, sh⟩ := hna (nl'.getD i .none) (by rw [List.getD_eq_getElem?_getD, List.getElem?_eq_getElem hi]; exact List.getElem_mem hi)
      generalize nl'.getD i .none = u at hu ro sh ⊢
      subst hu
      rw [hW] at ro
      obtain ⟨g1, g2, g3⟩ := hgl pre S eS
      refine W.hideQ fun Q2 hQ2 => ?_
      ((try dsimp only); (with_reducible refine WXs_cons ?_))
      refine WX_Expr (hs := by intro _; rfl) okw ?_
      refine W_Method (hbase := by intro _; rfl) (hfew := by intro _; rfl) (hline := by rfl) (hplain := by intro _; rfl) okw ?_
      ((try dsimp only); ((with_reducible refine W_local (d := ?dz604) (by assumption) ?hkz604 ?hlz604 ?qz604 ?hdz604); (case hkz604 => (have hh := In.scope ‹In _ _ _›; exact kindE hh (by kernel_rfl))); (case hlz604 => ((with_reducible refine lkp_skip ?hne2z604 ?hrest2z604); (case hne2z604 => decide +kernel); (with_reducible assumption))); (case hdz604 => decide +kernel); (try dsimp only)))
      refine getm_inst okw tk.inst tk.dict (hK ▸ km_seek _) (by kernel_rfl) ⟨keeps_fn hK (by kernel_rfl), ?_⟩
      refine WA_cons ?_
      ((try dsimp only); (with_reducible refine W_Sub ?_))
      ((try dsimp only); ((with_reducible refine W_local (d := ?dz606) (by assumption) ?hkz606 ?hlz606 ?qz606 ?hdz606); (case hkz606 => (have hh := In.scope ‹In _ _ _›; exact kindE hh (by kernel_rfl))); (case hlz606 => ((with_reducible exact lk_put_self))); (case hdz606 => decide +kernel); (try dsimp only)))
      ((try dsimp only); ((with_reducible refine W_int ?_); (try dsimp only)))
      refine s_lstItem (hs := by intro _ _ _; with_unfolding_all rfl) (k := 0) (.val _) (by decide) rfl ?_
      refine WA_nil ?_
      refine c_seek (n := n + 17) okw hK hP hc tk hL (by omega) ?_
      have hsg := sg_rs (l := tx) (i := pre.flatten.length) g1
      rw [g2] at hsg
      cases hs : sg tx pre.flatten.length with
      | none => rw [hs] at hsg; have := congrArg Prod.snd hsg; cases this
      | some je =>
        obtain ⟨j2, d2⟩ := je
        rw [hs] at hsg
        dsimp only at hsg ⊢
        have tk2 := tk.upd j2 d2
        ((try dsimp only); (with_reducible refine WXs_cons ?_))
        ((try dsimp only); (with_reducible refine WX_If ?_))
        ((try dsimp only); ((with_reducible refine WT_Compare (hm := ?hmz610) ?_); (case hmz610 => with_unfolding_all rfl)))
        refine W_Call (hplain := by intro _; rfl) okw ?_
        refine W_gl okw hK (by (have hh := In.scope ‹In _ _ _›; exact kindE hh (by kernel_rfl))) (g_read _) (by decide +kernel) ?_
        refine ⟨_, rfl, keeps_fn hK (by kernel_rfl), ?_⟩
        refine WA_cons ?_
        ((try dsimp only); ((with_reducible refine W_local (d := ?dz612) (by assumption) ?hkz612 ?hlz612 ?qz612 ?hdz612); (case hkz612 => (have hh := In.scope ‹In _ _ _›; exact kindE hh (by kernel_rfl))); (case hlz612 => ((with_reducible refine lkp_skip ?hne2z612 ?hrest2z612); (case hne2z612 => decide +kernel); (with_reducible assumption))); (case hdz612 => decide +kernel); (try dsimp only)))
        refine WA_nil ?_
        refine hrd (n + 15 - D) D (by rw [show n + 15 - D + D + 5 = n + 20 from by omega]; exact okw) hK hP hc tk2 hsg (by rw [if_neg (by decide)]; omega) ro fun j3 e3 rd3 => ?_
        ((try dsimp only); ((with_reducible refine W_local (d := ?dz613) (by assumption) ?hkz613 ?hlz613 ?qz613 ?hdz613); (case hkz613 => (have hh := In.scope ‹In _ _ _›; exact kindE hh (by kernel_rfl))); (case hlz613 => ((with_reducible exact lk_put_self))); (case hdz613 => decide +kernel); (try dsimp only)))
        refine o_ned okw sh sh (t_bool ?_)
        rw [eqv_self sh, if_neg (by decide)]
        ((try dsimp only); ((with_reducible refine WXs_nil ?_); (try dsimp only)))
        ((try dsimp only); ((with_reducible refine WXs_nil ?_); (try dsimp only)))
        refine hQ2 _ _ ⟨j3, e3, ?_, by ((with_reducible refine lkp_skip ?hne2z616 ?hrest2z616); (case hne2z616 => decide +kernel); (with_reducible assumption)), by ((with_reducible refine lkp_skip ?hne2z617 ?hrest2z617); (case hne2z617 => decide +kernel); (with_reducible assumption))⟩
        exact tk2.upd j3 e3
    · obtain ⟨loc, hp⟩ := σ'
      obtain ⟨j, e, tk, et, ex⟩ := inv
      dsimp only at tk et ex
      ((try dsimp only); ((with_reducible refine WXs_nil ?_); (try dsimp only)))
      ((try dsimp only); (with_reducible refine WXs_cons ?_))
      refine WX_For (hs := by intro _ _; rfl) ok hc hI.env (by (have hh := In.scope ‹In _ _ _›; exact kindE hh (by kernel_rfl))) (fun _ σ' => lk σ'.loc "text" = some (.str (wsg nds 4 0).flatten)) ?_
      refine wit_range1 ok (KB.of hK (by (have hh := In.scope ‹In _ _ _›; exact kindE hh (by kernel_rfl))) (b_range _) (by kernel_rfl)) (fun _ => rfl) ?_
      refine WA_cons ?_
      refine W_Call (hplain := by intro _; rfl) ok ?_
      refine W_bi (v := .builtin "len") ok hK (by (have hh := In.scope ‹In _ _ _›; exact kindE hh (by kernel_rfl))) (b_len _) (by kernel_rfl) (by decide +kernel) (by decide +kernel) ?_
      refine ⟨_, rfl, keeps_builtin, ?_⟩
      refine WA_cons ?_
      ((try dsimp only); ((with_reducible refine W_local (d := ?dz623) (by assumption) ?hkz623 ?hlz623 ?qz623 ?hdz623); (case hkz623 => (have hh := In.scope ‹In _ _ _›; exact kindE hh (by kernel_rfl))); (case hlz623 => ((with_reducible assumption))); (case hdz623 => decide +kernel); (try dsimp only)))
      refine WA_nil ?_
      refine c_lens (by omega) ?_
      refine WA_nil ⟨_, rfl, by omega, ex, fun i σ' wr hi ex okw => ?_, fun σ' _ => ?_⟩
      · obtain ⟨loc, hp⟩ := σ'
        dsimp only at ex
        refine W.hideQ fun Q2 hQ2 => ?_
        ((try dsimp only); (with_reducible refine WXs_cons ?_))
        refine WX_If ?_
        refine WT_Not ?_
        refine WT_value (he := by intro _ _; rfl) ?_
        refine W_Call (hplain := by intro _; rfl) okw ?_
        refine W_gl okw hK (by (have hh := In.scope ‹In _ _ _›; exact kindE hh (by kernel_rfl))) (g_refused _) (by decide +kernel) ?_
        refine ⟨_, rfl, keeps_fn hK (by kernel_rfl), ?_⟩
        refine WA_cons ?_
        refine W_SliceStr (ht := by intro _ _ _; with_unfolding_all rfl) ?_
        ((try dsimp only); ((with_reducible refine W_local (d := ?dz626) (by assumption) ?hkz626 ?hlz626 ?qz626 ?hdz626); (case hkz626 => (have hh := In.scope ‹In _ _ _›; exact kindE hh (by kernel_rfl))); (case hlz626 => ((with_reducible refine lkp_skip ?hne2z626 ?hrest2z626); (case hne2z626 => decide +kernel); (with_reducible assumption))); (case hdz626 => decide +kernel); (try dsimp only)))
        refine WP_none ?_
        refine WP_some ?_
        ((try dsimp only); ((with_reducible refine W_local (d := ?dz627) (by assumption) ?hkz627 ?hlz627 ?qz627 ?hdz627); (case hkz627 => (have hh := In.scope ‹In _ _ _›; exact kindE hh (by kernel_rfl))); (case hlz627 => ((with_reducible exact lk_put_self))); (case hdz627 => decide +kernel); (try dsimp only)))
        refine ⟨_, _, _, rfl, by omega, .none, .int _, ?_⟩
        rw [slc_to]
        refine WA_nil ?_
        refine c_refused (n := n + 10) okw hK hP hc (by rw [List.length_take]; omega) (fun hm => htn (List.mem_of_mem_take hm)) (hpre i hi) (t_bool ?_)
        rw [if_neg (by decide)]
        ((try dsimp only); ((with_reducible refine WXs_nil ?_); (try dsimp only)))
        ((try dsimp only); ((with_reducible refine WXs_nil ?_); (try dsimp only)))
        exact hQ2 _ _ (by ((with_reducible refine lkp_skip ?hne2z630 ?hrest2z630); (case hne2z630 => decide +kernel); (with_reducible assumption)))
      · ((try dsimp only); ((with_reducible refine WXs_nil ?_); (try dsimp only)))
        ((try dsimp only); (with_reducible refine WXs_cons ?_))
        ((try dsimp only); (with_reducible refine WX_Return ?_))
        ((try dsimp only); ((with_reducible refine W_bool ?_); (try dsimp only)))
        exact hQ1 _ _ rfl
end Mine
namespace Mine
open PySem PySem.W PyProof.Rows
set_option pp.deepTerms false
set_option maxHeartbeats 8000000 in
theorem tt : PySem.Challenge.rw_ij0062_02.Holds := hd (by
  k_go0
  rename_i hL ra w1 r0 hI hr hcond hc2 K0 hD h₁ F N0
  refine wpAny_mono (launch (K := KV ‹World›.params) (p := hd.view_39) (fd := fdAt (KK ‹World›.params) 193) (body := bodyAt (KK ‹World›.params) 193) (by assumption) (topRead_of (by assumption)) hL hI F (by rfl) rfl
    (fun X ok hK hP hw hc hI => w_law (n := 20) ok hK hP hc hI (by omega))) (fun f s' q => ?_) (fun e s' q => q.elim)
  obtain ⟨rfl, h', tk', rfl, hs⟩ := q
  exact ⟨.inl ⟨.bool true, .bool true, [], rfl, fun cls => rfl, .bool true, by wrow_post, fun _ => ⟨List.nodup_nil, fun a ha => by cases ha⟩⟩, hs, rfl, by assumption⟩)
end Mine

theorem PySem.Challenge.cw_ij0062_02_holds : PySem.Challenge.rw_ij0062_02.Holds := by
  exact Mine.tt
