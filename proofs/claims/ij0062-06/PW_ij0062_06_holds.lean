import PyProof.Rows.All
import Wide.All
import OpenK.AllK
import Wide.FinOn
import Lean
import PySem.Challenge.RW_ij0062_06
set_option Elab.async false
set_option genInjectivity false
set_option genSizeOf false
set_option genSizeOfSpec false
set_option maxRecDepth 100000
set_option linter.unusedVariables false
set_option linter.unusedSimpArgs false
namespace Mine
open PySem PySem.W PySem.Calls PySem.Spec PyProof.Rows
inductive V where
  | none
  | bool (b : Bool)
  | int (i : Int)
  | str (l : List Nat)
  | tup (vs : List V)
  | lst (vs : List V)
  | ref (a : Addr)
  | lit (v : Value)
inductive HO where
  | lst (vs : List V)
  | inst (C dx : Addr)
  | dict (fs : List (Str × V))
  | exc (C : Addr) (dx : Option Addr)
  | cell (d : Option V)
  | pair
mutual
inductive VM (mu : Addr → Prop) (h : Heap) : Value → V → Prop
  | none : VM mu h Value.none V.none
  | bool (b : Bool) : VM mu h (Value.bool b) (V.bool b)
  | int (i : Int) (t : Tok) : VM mu h (Value.int i t) (V.int i)
  | str (x : Str) (t : Tok) : VM mu h (Value.str x t) (V.str x.cps.toList)
  | tup {a : Addr} {o : Obj} {vs : List Value} {n : Nat} {ds : List V} : h.get? a = some o → o.cls = .type "tuple" → o.data = .seq vs.toArray n → ¬ mu a → VMs mu h vs ds → VM mu h (Value.ref a) (V.tup ds)
  | lst {a : Addr} {o : Obj} {vs : List Value} {n : Nat} {ds : List V} : h.get? a = some o → o.cls = .type "list" → o.data = .seq vs.toArray n → ¬ mu a → VMs mu h vs ds → VM mu h (Value.ref a) (V.lst ds)
  | ref (a : Addr) : VM mu h (Value.ref a) (V.ref a)
  | lit (v : Value) : VM mu h v (V.lit v)
inductive VMs (mu : Addr → Prop) (h : Heap) : List Value → List V → Prop
  | nil : VMs mu h [] []
  | cons {v : Value} {vs : List Value} {d : V} {ds : List V} : VM mu h v d → VMs mu h vs ds → VMs mu h (v :: vs) (d :: ds)
end
noncomputable def VMo (mu : Addr → Prop) (h : Heap) (v : Value) : V → Prop
  | .none => v = .none
  | .bool b => v = .bool b
  | .int i => ∃ t, v = .int i t
  | .str l => ∃ t, v = .str ⟨l.toArray⟩ t
  | .tup ds => ∃ a o vs n, v = .ref a ∧ h.get? a = some o ∧ o.cls = .type "tuple" ∧ o.data = .seq vs.toArray n ∧ ¬ mu a ∧ VMs mu h vs ds
  | .lst ds => ∃ a o vs n, v = .ref a ∧ h.get? a = some o ∧ o.cls = .type "list" ∧ o.data = .seq vs.toArray n ∧ ¬ mu a ∧ VMs mu h vs ds
  | .ref a => v = .ref a
  | .lit w => v = w
theorem VM.out {mu : Addr → Prop} {h : Heap} {v : Value} {d : V} (x : VM mu h v d) : VMo mu h v d := by
  cases x with
  | none => exact rfl
  | bool b => exact rfl
  | int i t => exact ⟨t, rfl⟩
  | str x t => exact ⟨t, by rw [Array.toArray_toList]⟩
  | tup a b c d e => exact ⟨_, _, _, _, rfl, a, b, c, d, e⟩
  | lst a b c d e => exact ⟨_, _, _, _, rfl, a, b, c, d, e⟩
  | ref a => exact rfl
  | lit v => exact rfl
theorem VM.noneI {mu : Addr → Prop} {h : Heap} {v : Value} (x : VM mu h v .none) : v = .none := x.out
theorem VM.boolI {mu : Addr → Prop} {h : Heap} {v : Value} {b : Bool} (x : VM mu h v (.bool b)) : v = .bool b := x.out
theorem VM.intI {mu : Addr → Prop} {h : Heap} {v : Value} {i : Int} (x : VM mu h v (.int i)) : ∃ t, v = .int i t := x.out
theorem VM.refI {mu : Addr → Prop} {h : Heap} {v : Value} {a : Addr} (x : VM mu h v (.ref a)) : v = .ref a := x.out
theorem VM.litI {mu : Addr → Prop} {h : Heap} {v w : Value} (x : VM mu h v (.lit w)) : v = w := x.out
theorem VM.strI {mu : Addr → Prop} {h : Heap} {v : Value} {l : List Nat} (x : VM mu h v (.str l)) : ∃ t, v = .str ⟨l.toArray⟩ t := x.out
theorem VM.tupI {mu : Addr → Prop} {h : Heap} {v : Value} {ds : List V} (x : VM mu h v (.tup ds)) : ∃ a o vs n, v = .ref a ∧ h.get? a = some o ∧ o.cls = .type "tuple" ∧ o.data = .seq vs.toArray n ∧ ¬ mu a ∧ VMs mu h vs ds := x.out
theorem VM.lstI {mu : Addr → Prop} {h : Heap} {v : Value} {ds : List V} (x : VM mu h v (.lst ds)) : ∃ a o vs n, v = .ref a ∧ h.get? a = some o ∧ o.cls = .type "list" ∧ o.data = .seq vs.toArray n ∧ ¬ mu a ∧ VMs mu h vs ds := x.out
noncomputable def isSeq : Data → Prop
  | .seq _ _ => True
  | _ => False
structure Ext (L : Addr) (prot : List Addr) (mu : Addr → Prop) (h : Heap) (mu' : Addr → Prop) (h' : Heap) : Prop where
  seq : ∀ a o, h.get? a = some o → ¬ mu a → isSeq o.data → h'.get? a = some o ∧ ¬ mu' a
  obj : ∀ a o, h.get? a = some o → ¬ mu a → a ≠ L → (∀ vs, o.data ≠ .fields vs) → ¬ mu' a ∧ ∃ sl, h'.get? a = some { o with slots := sl }
  watch : ∀ a ∈ prot, ∀ o, h.get? a = some o → h'.get? a = some o ∧ ¬ mu' a
noncomputable def SeqX (mu : Addr → Prop) (h : Heap) (mu' : Addr → Prop) (h' : Heap) : Prop := ∀ a o, h.get? a = some o → ¬ mu a → isSeq o.data → h'.get? a = some o ∧ ¬ mu' a
theorem VM.monoS {mu mu' : Addr → Prop} {h h' : Heap} (x : SeqX mu h mu' h') {v : Value} {d : V} (y : VM mu h v d) : VM mu' h' v d :=
  VM.rec (motive_1 := fun v d _ => VM mu' h' v d) (motive_2 := fun vs ds _ => VMs mu' h' vs ds) .none .bool .int .str (fun ho hc hd hn _ r => .tup (x _ _ ho hn (by rw [hd]; trivial)).1 hc hd (x _ _ ho hn (by rw [hd]; trivial)).2 r)
    (fun ho hc hd hn _ r => .lst (x _ _ ho hn (by rw [hd]; trivial)).1 hc hd (x _ _ ho hn (by rw [hd]; trivial)).2 r) .ref .lit .nil (fun _ _ a r => .cons a r) y
theorem VMs.monoS {mu mu' : Addr → Prop} {h h' : Heap} (x : SeqX mu h mu' h') {vs : List Value} {ds : List V} (y : VMs mu h vs ds) : VMs mu' h' vs ds := by
  induction vs generalizing ds with
  | nil => cases y; exact .nil
  | cons v vs ih => cases y with | cons a r => exact .cons (a.monoS x) (ih r)
theorem VM.mono {L : Addr} {prot : List Addr} {mu mu' : Addr → Prop} {h h' : Heap} (x : Ext L prot mu h mu' h') {v : Value} {d : V} (y : VM mu h v d) : VM mu' h' v d := y.monoS x.seq
theorem VMs.mono {L : Addr} {prot : List Addr} {mu mu' : Addr → Prop} {h h' : Heap} (x : Ext L prot mu h mu' h') {vs : List Value} {ds : List V} (y : VMs mu h vs ds) : VMs mu' h' vs ds := y.monoS x.seq
theorem VMs.length {mu : Addr → Prop} {h : Heap} {vs : List Value} {ds : List V} (x : VMs mu h vs ds) : vs.length = ds.length := by
  induction vs generalizing ds with
  | nil => cases x; rfl
  | cons v vs ih => cases x with | cons a r => simp [ih r]
theorem VMs.append {mu : Addr → Prop} {h : Heap} {vs ws : List Value} {ds es : List V} (x : VMs mu h vs ds) (y : VMs mu h ws es) : VMs mu h (vs ++ ws) (ds ++ es) := by
  induction vs generalizing ds with
  | nil => cases x; exact y
  | cons v vs ih => cases x with | cons a r => exact .cons a (ih r)
theorem VMs.get {mu : Addr → Prop} {h : Heap} {vs : List Value} {ds : List V} (x : VMs mu h vs ds) {k : Nat} {d : V} (e : ds[k]? = some d) : ∃ v, vs[k]? = some v ∧ VM mu h v d := by
  induction vs generalizing ds k with
  | nil => cases x; simp at e
  | cons v vs ih =>
    cases x with
    | cons a r =>
      cases k with
      | zero => simp at e; subst e; exact ⟨v, rfl, a⟩
      | succ k => simp at e; simpa using ih r e
theorem VMs.get' {mu : Addr → Prop} {h : Heap} {vs : List Value} {ds : List V} (x : VMs mu h vs ds) {k : Nat} {v : Value} (e : vs[k]? = some v) : ∃ d, ds[k]? = some d ∧ VM mu h v d := by
  induction vs generalizing ds k with
  | nil => cases x; simp at e
  | cons w vs ih =>
    cases x with
    | cons a r =>
      cases k with
      | zero => simp at e; subst e; exact ⟨_, rfl, a⟩
      | succ k => simp at e; simpa using ih r e
theorem Ext.refl (L : Addr) (prot : List Addr) (mu : Addr → Prop) (h : Heap) (hp : ∀ a ∈ prot, ¬ mu a) : Ext L prot mu h mu h :=
  ⟨fun _ _ e n _ => ⟨e, n⟩, fun _ o e n _ _ => ⟨n, o.slots, e⟩, fun a ha _ e => ⟨e, hp a ha⟩⟩
theorem Ext.trans {L : Addr} {prot : List Addr} {m₁ m₂ m₃ : Addr → Prop} {h₁ h₂ h₃ : Heap} (x : Ext L prot m₁ h₁ m₂ h₂) (y : Ext L prot m₂ h₂ m₃ h₃) : Ext L prot m₁ h₁ m₃ h₃ := by
  refine ⟨fun a o e n q => ?_, fun a o e n l q => ?_, fun a ha o e => ?_⟩
  · have z := x.seq a o e n q
    exact y.seq a o z.1 z.2 q
  · obtain ⟨n', sl, e'⟩ := x.obj a o e n l q
    obtain ⟨n'', sl', e''⟩ := y.obj a _ e' n' l q
    exact ⟨n'', sl', e''⟩
  · have z := x.watch a ha o e
    exact y.watch a ha o z.1
theorem Ext.keeps {L : Addr} {prot : List Addr} {mu : Addr → Prop} {h h' : Heap} (hp : ∀ a ∈ prot, ¬ mu a) (k : ∀ b o, h.get? b = some o → h'.get? b = some o) : Ext L prot mu h mu h' :=
  ⟨fun a o e n _ => ⟨k a o e, n⟩, fun a o e n _ _ => ⟨n, o.slots, k a o e⟩, fun a ha o e => ⟨k a o e, hp a ha⟩⟩
inductive Ents (mu : Addr → Prop) (h : Heap) : List DictEntry → List (Str × V) → Prop
  | nil : Ents mu h [] []
  | cons {e : DictEntry} {es : List DictEntry} {x : Str} {t : Tok} {d : V} {fs : List (Str × V)} : e.key = .str x t → VM mu h e.val d → Ents mu h es fs → Ents mu h (e :: es) ((x, d) :: fs)
theorem Ents.mono {L : Addr} {prot : List Addr} {mu mu' : Addr → Prop} {h h' : Heap} (x : Ext L prot mu h mu' h') {es : List DictEntry} {fs : List (Str × V)} (y : Ents mu h es fs) : Ents mu' h' es fs := by
  induction y with
  | nil => exact .nil
  | cons a b _ ih => exact .cons a (b.mono x) ih
noncomputable def lk (fs : List (Str × V)) (x : Str) : Option V := fs.lookup x
noncomputable def OM (mu : Addr → Prop) (h : Heap) (a : Addr) : HO → Prop
  | .lst ds => ∃ vs n, h.get? a = some (listOf vs.toArray n) ∧ VMs mu h vs ds
  | .inst C dx => h.get? a = some (instObj C dx)
  | .dict fs => ∃ es n, h.get? a = some (dictOf es n) ∧ Ents mu h es fs ∧ es.length ≤ 100
  | .exc C dx => ∃ vs a0, h.get? a = some { cls := .ref C, dict := dx, data := .fields vs } ∧ vs[0]? = some a0 ∧ vs[1]? = some .none ∧ vs.size = 6
  | .cell d => ∃ o v, h.get? a = some o ∧ o.data = .cell v ∧ (match d with | some d => ∃ w, v = some w ∧ VM mu h w d | none => v = none)
  | .pair => ∃ x y : Value, h.get? a = some { cls := .type "tuple", data := .seq #[x, y] }
theorem OM.mono {L : Addr} {prot : List Addr} {mu mu' : Addr → Prop} {h h' : Heap} {a : Addr} {o : HO} (x : Ext L prot mu h mu' h') (e : h'.get? a = h.get? a) (y : OM mu h a o) : OM mu' h' a o := by
  cases o with
  | lst ds => obtain ⟨vs, n, q, r⟩ := y; exact ⟨vs, n, e.trans q, r.mono x⟩
  | inst C dx => exact e.trans y
  | dict fs => obtain ⟨es, n, q, r, z⟩ := y; exact ⟨es, n, e.trans q, r.mono x, z⟩
  | exc C dx => obtain ⟨vs, a0, q, r⟩ := y; exact ⟨vs, a0, e.trans q, r⟩
  | cell d =>
    obtain ⟨o, v, q, r, z⟩ := y
    refine ⟨o, v, e.trans q, r, ?_⟩
    cases d with
    | none => exact z
    | some d => obtain ⟨w, a, b⟩ := z; exact ⟨w, a, b.mono x⟩
  | pair => obtain ⟨u, v, q⟩ := y; exact ⟨u, v, e.trans q⟩
theorem OM.there {mu : Addr → Prop} {h : Heap} {a : Addr} {o : HO} (y : OM mu h a o) : ∃ ob, h.get? a = some ob := by
  cases o with
  | lst ds => obtain ⟨vs, n, q, r⟩ := y; exact ⟨_, q⟩
  | inst C dx => exact ⟨_, y⟩
  | dict fs => obtain ⟨es, n, q, r, z⟩ := y; exact ⟨_, q⟩
  | exc C dx => obtain ⟨vs, a0, q, r⟩ := y; exact ⟨_, q⟩
  | cell d => obtain ⟨o, v, q, r, z⟩ := y; exact ⟨_, q⟩
  | pair => obtain ⟨u, v, q⟩ := y; exact ⟨_, q⟩
structure S where
  loc : List (Str × V)
  hp : Addr → Option HO
noncomputable def S.mu (σ : S) : Addr → Prop := fun a => σ.hp a ≠ none
structure Cx where
  prog : Program
  w : World
  K : Frag
  p : Program
  loose : List Str
  mg : Str → Option Value
  mb : Str → Option Value
  base : Heap
  A : Around
  env : Env
  fenv : Env
  L : Addr
  outer : List Env
  prot : List Addr
  ctx : Option (Addr × Bool) := none
structure Ok (X : Cx) (n : Nat) : Prop where
  inK : X.K.In X.base
  top : TopRead X.p X.loose X.mg X.mb X.base
  frames : X.A.frames = some (X.fenv :: X.outer)
  frame : X.fenv.frame = some X.L
  eframe : X.env.frame = some X.L
  kind : X.env.scope.kind = .function
  genv : X.env.globals = mainGlobals
  benv : X.env.builtins = builtinsNs
  above : X.base.objs.size ≤ X.env.locals
  locProt : X.env.locals ∉ X.prot
  handled : X.A.handled = X.ctx.map fun p => .ref p.1
  ctxIn : ∀ p, X.ctx = some p → p.1 ∈ X.prot
  depth : X.A.depth + 2 * n + 8 < recursionLimit
  units : X.A.units + 20 * n + 300 < cLine
inductive FrIs (base : Heap) (mu : Addr → Prop) (h : Heap) (e : Env) : Prop
  | mk (k0 : e.scope.kind ≠ .module) (L : Addr) (o : Obj) (es : Array DictEntry) (ep : Nat) (k1 : e.frame = some L) (k2 : base.get? L = none) (k3 : ¬ mu L) (k4 : h.get? L = some o) (k5 : o.data = .dict es ep)
theorem funs_of {base : Heap} {mu : Addr → Prop} {h : Heap} : ∀ {l : List Env}, (∀ e ∈ l, FrIs base mu h e) → h.FunFrames base l
  | [], _ => trivial
  | _ :: _, k =>
    let ⟨a, L, o, es, ep, hf, hn, _, ho, hd⟩ := k _ (.head _)
    ⟨a, ⟨L, o, hf, hn, ho, fun _ e => by rw [hd] at e; cases e⟩, funs_of fun e he => k e (.tail _ he)⟩
structure St (X : Cx) (σ : S) (h : Heap) : Prop where
  base : X.base.StaysIn h
  names : ∃ m, h.Ns X.env.locals m ∧ ∀ x d, lk σ.loc x = some d → ∃ v, m x = some v ∧ VM σ.mu h v d
  own : ∀ a o, σ.hp a = some o → OM σ.mu h a o ∧ X.base.get? a = none
  locOff : ¬ σ.mu X.env.locals
  prot : ∀ a ∈ X.prot, ¬ σ.mu a ∧ ∃ o vs, h.get? a = some o ∧ o.data = .fields vs ∧ (X.ctx = some (a, true) → vs[2]? = some .none)
  frs : ∀ e ∈ X.fenv :: X.outer, FrIs X.base σ.mu h e
theorem St.protOff {X : Cx} {σ : S} {h : Heap} (st : St X σ h) : ∀ a ∈ X.prot, ¬ σ.mu a := fun a ha => (st.prot a ha).1
noncomputable def Ctx0 (cls : Value) (vs : Array Value) : Prop := (∃ T, cls = .type T) → vs[2]? = some .none
inductive ExcAt (X : Cx) (mu : Addr → Prop) (h : Heap) (e : Addr) (cls : Value) : Prop
  | mk (k0 : X.base.get? e = none ∧ ¬ mu e) (k1 : e ∉ X.prot) (oe : Obj) (vs : Array Value) (a0 : Value) (k2 : h.get? e = some oe) (k3 : oe.cls = cls) (k4 : oe.data = .fields vs) (k5 : vs[0]? = some a0 ∧ Ctx0 cls vs)
    (k6 : vs[1]? = some .none ∨ ∃ T oT ts, vs[1]? = some (.ref T) ∧ (X.base.get? T = none ∧ ¬ mu T) ∧ T ∉ X.prot ∧ T ≠ e ∧ h.get? T = some oT ∧ oT.data = .fields ts ∧ (ts[3]? = some .none ∨ ts[3]? = some (rawInt X.L)))
structure Post (X : Cx) (σ : S) (s : Shared) (σ' : S) (s' : Shared) : Prop where
  upd : ∃ h' tk', s' = { s with heap := h', toks := tk' }
  ext : Ext X.env.locals X.prot σ.mu s.heap σ'.mu s'.heap
  st : St X σ' s'.heap
theorem Post.refl {X : Cx} {σ : S} {s : Shared} (st : St X σ s.heap) : Post X σ s σ s := ⟨⟨s.heap, s.toks, rfl⟩, Ext.refl _ _ _ _ st.protOff, st⟩
theorem Post.trans {X : Cx} {σ₁ σ₂ σ₃ : S} {s₁ s₂ s₃ : Shared} (a : Post X σ₁ s₁ σ₂ s₂) (b : Post X σ₂ s₂ σ₃ s₃) : Post X σ₁ s₁ σ₃ s₃ := by
  obtain ⟨h₂, t₂, e₂⟩ := a.upd
  obtain ⟨h₃, t₃, e₃⟩ := b.upd
  exact ⟨⟨h₃, t₃, by rw [e₃, e₂]⟩, a.ext.trans b.ext, b.st⟩
section
variable {α β : Type}
inductive Qw (X : Cx) (σ : S) (s : Shared) (R : (Addr → Prop) → Heap → α → β → Prop) (Q : β → S → Prop) (a : α) (s' : Shared) : Prop
  | mk (b : β) (σ' : S) (P : Post X σ s σ' s') (r : R σ'.mu s'.heap a b) (q : Q b σ')
inductive Ew (X : Cx) (σ : S) (s : Shared) (E : Value → S → Prop) (e : Value) (s' : Shared) : Prop
  | mk (ea : Addr) (cls : Value) (σ' : S) (P : Post X σ s σ' s') (he : e = .ref ea) (x : ExcAt X σ'.mu s'.heap ea cls) (q : E cls σ')
noncomputable def W (X : Cx) (t : Sem α) (R : (Addr → Prop) → Heap → α → β → Prop) (σ : S) (Q : β → S → Prop) (E : Value → S → Prop) : Prop :=
  ∀ s, St X σ s.heap → wpAny (model X.prog X.w) X.A t (Qw X σ s R Q) (Ew X σ s E) s
theorem Ew.after {X : Cx} {σ σ₁ : S} {s s₁ s' : Shared} {E : Value → S → Prop} {e : Value} (P : Post X σ s σ₁ s₁) (h : Ew X σ₁ s₁ E e s') : Ew X σ s E e s' := by
  obtain ⟨ea, cls, σ', q, r1, r2, r3⟩ := h
  exact ⟨ea, cls, σ', P.trans q, r1, r2, r3⟩
theorem Qw.after {X : Cx} {σ σ₁ : S} {s s₁ s' : Shared} {R : (Addr → Prop) → Heap → α → β → Prop} {Q : β → S → Prop} {a : α} (P : Post X σ s σ₁ s₁) (h : Qw X σ₁ s₁ R Q a s') : Qw X σ s R Q a s' := by
  obtain ⟨b, σ', q, r1, r2⟩ := h
  exact ⟨b, σ', P.trans q, r1, r2⟩
theorem W.run {X : Cx} {t : Sem α} {R : (Addr → Prop) → Heap → α → β → Prop} {σ : S} {Q : β → S → Prop} {E : Value → S → Prop} (h : W X t R σ Q E) {σ₀ : S} {s₀ s : Shared} (P : Post X σ₀ s₀ σ s)
    {Q' : α → Shared → Prop} (hq : ∀ a s' b σ', Post X σ s σ' s' → Post X σ₀ s₀ σ' s' → R σ'.mu s'.heap a b → Q b σ' → Q' a s') : wpAny (model X.prog X.w) X.A t Q' (Ew X σ₀ s₀ E) s := by
  refine wpAny_mono (h s P.st) (fun a s' q => ?_) fun e s' q => q.after P
  obtain ⟨b, σ', p, r, q⟩ := q
  exact hq a s' b σ' p (P.trans p) r q
theorem W.hide {X : Cx} {t : Sem α} {R : (Addr → Prop) → Heap → α → β → Prop} {σ : S} {Q : β → S → Prop} {E : Value → S → Prop} (h : ∀ Q' E', (∀ b σ', Q b σ' → Q' b σ') → (∀ c σ', E c σ' → E' c σ') → W X t R σ Q' E') : W X t R σ Q E := h Q E (fun _ _ q => q) fun _ _ q => q
theorem W.hideQ {X : Cx} {t : Sem α} {R : (Addr → Prop) → Heap → α → β → Prop} {σ : S} {Q : β → S → Prop} {E : Value → S → Prop} (h : ∀ Q', (∀ b σ', Q b σ' → Q' b σ') → W X t R σ Q' E) : W X t R σ Q E := h Q fun _ _ q => q
end
noncomputable abbrev RU : (Addr → Prop) → Heap → Unit → Unit → Prop := fun _ _ _ _ => True
noncomputable abbrev RB : (Addr → Prop) → Heap → Bool → Bool → Prop := fun _ _ a b => a = b
inductive FV where
  | next | brk | cont | ret (d : V)
noncomputable def FM (mu : Addr → Prop) (h : Heap) : Flow → FV → Prop
  | .next, .next => True
  | .brk, .brk => True
  | .cont, .cont => True
  | .ret v, .ret d => VM mu h v d
  | _, _ => False
theorem Post.keeps {X : Cx} {σ : S} {s s' : Shared} (st : St X σ s.heap) (h' : Heap) (tk' : Nat) (e : s' = { s with heap := h', toks := tk' }) (k : ∀ b o, s.heap.get? b = some o → h'.get? b = some o) : Post X σ s σ s' := by
  subst e
  have x : Ext X.env.locals X.prot σ.mu s.heap σ.mu h' := Ext.keeps st.protOff k
  refine ⟨⟨h', tk', rfl⟩, x, ⟨fun b o q => k b o (st.base b o q), ?_, ?_, st.locOff, fun a ha => ?_, fun e he => ?_⟩⟩
  · obtain ⟨m, hn, hm⟩ := st.names
    exact ⟨m, hn.keeps k, fun y d q => let ⟨v, a, b⟩ := hm y d q; ⟨v, a, b.mono x⟩⟩
  · intro a o q
    obtain ⟨y, z⟩ := st.own a o q
    obtain ⟨ob, g⟩ := y.there
    exact ⟨y.mono x ((k a ob g).trans g.symm), z⟩
  · obtain ⟨z, o, vs, g, d⟩ := st.prot a ha
    exact ⟨z, o, vs, k a o g, d⟩
  · obtain ⟨z, L, o, es, ep, hf, hn, hm, g, d⟩ := st.frs e he
    exact ⟨z, L, o, es, ep, hf, hn, hm, k L o g, d⟩
theorem St.fr {X : Cx} {n : Nat} (ok : Ok X n) {σ : S} {h : Heap} (st : St X σ h) : ∃ m, Fr X.base X.env.locals h m ∧ ∀ x d, lk σ.loc x = some d → ∃ v, m x = some v ∧ VM σ.mu h v d := by
  obtain ⟨m, hn, hm⟩ := st.names
  exact ⟨m, ⟨hn, st.base, ok.above⟩, hm⟩
theorem St.inK {X : Cx} {n : Nat} (ok : Ok X n) {σ : S} {h : Heap} (st : St X σ h) : X.K.In h := ok.inK.keeps st.base
end Mine
namespace Mine
open PySem PySem.W PySem.Calls PySem.Spec PyProof.Rows
section
variable {X : Cx} {n : Nat} {σ : S} {E : Value → S → Prop}
noncomputable abbrev WE (X : Cx) (e : Expr) (σ : S) (Q : V → S → Prop) (E : Value → S → Prop) : Prop := W X (eval e X.env) VM σ Q E
noncomputable abbrev WX (X : Cx) (st : Stmt) (σ : S) (Q : FV → S → Prop) (E : Value → S → Prop) : Prop := W X (exec st X.env) FM σ Q E
noncomputable abbrev WXs (X : Cx) (st : List Stmt) (σ : S) (Q : FV → S → Prop) (E : Value → S → Prop) : Prop := W X (execs st X.env) FM σ Q E
noncomputable abbrev WT (X : Cx) (e : Expr) (σ : S) (Q : Bool → S → Prop) (E : Value → S → Prop) : Prop := W X (isTrue e X.env (eval e X.env)) RB σ Q E
theorem qw_same {α β : Type} {R : (Addr → Prop) → Heap → α → β → Prop} {s : Shared} {a : α} {b : β} {Q : β → S → Prop} (st : St X σ s.heap) (tk : Nat) (r : R σ.mu s.heap a b) (q : Q b σ) : Qw X σ s R Q a { s with toks := tk } :=
  ⟨b, σ, ⟨⟨s.heap, tk, rfl⟩, Ext.refl _ _ _ _ st.protOff, st⟩, r, q⟩
theorem qw_self {α β : Type} {R : (Addr → Prop) → Heap → α → β → Prop} {s : Shared} {a : α} {b : β} {Q : β → S → Prop} (st : St X σ s.heap) (r : R σ.mu s.heap a b) (q : Q b σ) : Qw X σ s R Q a s :=
  ⟨b, σ, Post.refl st, r, q⟩
theorem W_int {i : Int} {k : Nat} {pos : Pos} {Q : V → S → Prop} (q : Q (.int i) σ) : WE X (.Constant (.int i) k pos) σ Q E := fun _ st =>
  wpAny_Constant_int (qw_same st _ (.int i _) q)
theorem W_str {x : Str} {l : List Nat} {k : Nat} {pos : Pos} {Q : V → S → Prop} (e : x.cps.toList = l) (q : Q (.str l) σ) : WE X (.Constant (.str x) k pos) σ Q E := fun _ st =>
  wpAny_Constant_str (qw_same st _ (.str x _) (e ▸ q))
theorem W_none {k : Nat} {pos : Pos} {Q : V → S → Prop} (q : Q .none σ) : WE X (.Constant .none k pos) σ Q E := fun _ st => wpAny_Constant_none (qw_self st .none q)
theorem W_bool {b : Bool} {k : Nat} {pos : Pos} {Q : V → S → Prop} (q : Q (.bool b) σ) : WE X (.Constant (.bool b) k pos) σ Q E := fun _ st => wpAny_Constant_bool (qw_self st (.bool b) q)
theorem W_local {x : Str} {pos : Pos} {d : V} {Q : V → S → Prop} (ok : Ok X n) (hx : X.env.kindOf x = some .local) (e : lk σ.loc x = some d) (q : Q d σ) (hd : (x == ("__debug__" : Str)) = false) :
    WE X (.Name x pos) σ Q E := fun _ st => by
  obtain ⟨m, hn, hm⟩ := st.names
  obtain ⟨v, hv, vm⟩ := hm x d e
  exact wpAny_Name (wpAny_loadName_local ok.kind hx hn hv (qw_self st vm q)) hd
theorem W_global {x : Str} {pos : Pos} {v : Value} {Q : V → S → Prop} (ok : Ok X n) (hx : X.env.kindOf x = some .globalImplicit) (e : nsIn X.K mainGlobals x = some (some v)) (q : Q (.lit v) σ) (hd : (x == ("__debug__" : Str)) = false) :
    WE X (.Name x pos) σ Q E := fun _ st =>
  Name_function_global ok.kind hx (loadGlobal_global (ok.genv ▸ ok.top.g.keeps st.base) (mg_of ok.inK ok.top.g e) (qw_self st (.lit v) q)) hd
theorem W_builtin {x : Str} {pos : Pos} {v : Value} {Q : V → S → Prop} (ok : Ok X n) (hx : X.env.kindOf x = some .globalImplicit) (e : nsIn X.K mainGlobals x = some none) (hv : bootBuiltins x = some v) (hn : x ≠ "__name__") (q : Q (.lit v) σ) (hd : (x == ("__debug__" : Str)) = false) :
    WE X (.Name x pos) σ Q E := fun _ st =>
  Name_function_global ok.kind hx (loadGlobal_builtin (ok.genv ▸ ok.top.g.keeps st.base) (mg_none_of ok.inK ok.top.g e) (ok.benv ▸ ok.top.b.keeps st.base) ((ok.top.builtins x hn).trans hv) (qw_self st (.lit v) q)) hd
noncomputable def Op2 (X : Cx) (t : Value → Value → Sem Value) (a b : V) (σ : S) (Q : V → S → Prop) (E : Value → S → Prop) : Prop :=
  ∀ v w s, St X σ s.heap → VM σ.mu s.heap v a → VM σ.mu s.heap w b → wpAny (model X.prog X.w) X.A (t v w) (Qw X σ s VM Q) (Ew X σ s E) s
noncomputable def Tr (X : Cx) (a : V) (σ : S) (Q : Bool → S → Prop) (E : Value → S → Prop) : Prop :=
  ∀ v s, St X σ s.heap → VM σ.mu s.heap v a → wpAny (model X.prog X.w) X.A (truthy v) (Qw X σ s RB Q) (Ew X σ s E) s
noncomputable def Op1 (X : Cx) (t : Value → Sem Value) (a : V) (σ : S) (Q : V → S → Prop) (E : Value → S → Prop) : Prop :=
  ∀ v s, St X σ s.heap → VM σ.mu s.heap v a → wpAny (model X.prog X.w) X.A (t v) (Qw X σ s VM Q) (Ew X σ s E) s
theorem Op2.go {t : Value → Value → Sem Value} {a b : V} {Q : V → S → Prop} (h : Op2 X t a b σ Q E) {σ₀ : S} {s₀ s : Shared} (P : Post X σ₀ s₀ σ s) {v w : Value} (va : VM σ.mu s.heap v a) (wb : VM σ.mu s.heap w b) :
    wpAny (model X.prog X.w) X.A (t v w) (Qw X σ₀ s₀ VM Q) (Ew X σ₀ s₀ E) s :=
  wpAny_mono (h v w s P.st va wb) (fun _ _ q => q.after P) fun _ _ q => q.after P
theorem Op1.go {t : Value → Sem Value} {a : V} {Q : V → S → Prop} (h : Op1 X t a σ Q E) {σ₀ : S} {s₀ s : Shared} (P : Post X σ₀ s₀ σ s) {v : Value} (va : VM σ.mu s.heap v a) :
    wpAny (model X.prog X.w) X.A (t v) (Qw X σ₀ s₀ VM Q) (Ew X σ₀ s₀ E) s :=
  wpAny_mono (h v s P.st va) (fun _ _ q => q.after P) fun _ _ q => q.after P
theorem Tr.go {a : V} {Q : Bool → S → Prop} (h : Tr X a σ Q E) {σ₀ : S} {s₀ s : Shared} (P : Post X σ₀ s₀ σ s) {v : Value} (va : VM σ.mu s.heap v a) :
    wpAny (model X.prog X.w) X.A (truthy v) (Qw X σ₀ s₀ RB Q) (Ew X σ₀ s₀ E) s :=
  wpAny_mono (h v s P.st va) (fun _ _ q => q.after P) fun _ _ q => q.after P
theorem W.go {α β : Type} {t : Sem α} {R : (Addr → Prop) → Heap → α → β → Prop} {Q : β → S → Prop} (h : W X t R σ Q E) {σ₀ : S} {s₀ s : Shared} (P : Post X σ₀ s₀ σ s) : wpAny (model X.prog X.w) X.A t (Qw X σ₀ s₀ R Q) (Ew X σ₀ s₀ E) s :=
  wpAny_mono (h s P.st) (fun _ _ q => q.after P) fun _ _ q => q.after P
theorem W_BinOp {l r : Expr} {op : Operator} {pos : Pos} {Q : V → S → Prop} (h : WE X l σ (fun a σ₁ => WE X r σ₁ (fun b σ₂ => Op2 X (binaryOp op) a b σ₂ Q E) E) E) : WE X (.BinOp l op r pos) σ Q E := fun _ st =>
  wpAny_BinOp (h.run (Post.refl st) fun _ _ _ _ _ P₁ va h₁ => h₁.run P₁ fun _ _ _ _ p₂ P₂ vb h₂ => h₂.go P₂ (va.mono p₂.ext) vb)
theorem WT_Compare {l r : Expr} {op : CmpOp} {pos : Pos} {Q : Bool → S → Prop} (h : WE X l σ (fun a σ₁ => WE X r σ₁ (fun b σ₂ => Op2 X (compareOp op) a b σ₂ (fun c σ₃ => Tr X c σ₃ Q E) E) E) E) (hm : behindInMarks op r = false) :
    WT X (.Compare l [op] [r] pos) σ Q E := fun _ st =>
  wpAny_isTrue_Compare1 (h.run (Post.refl st) fun _ _ _ _ _ P₁ va h₁ => h₁.run P₁ fun _ _ _ _ p₂ P₂ vb h₂ => wpAny_mono (h₂.go P₂ (va.mono p₂.ext) vb) (fun _ _ q => by
    obtain ⟨c, σ₃, P₃, vc, h₃⟩ := q
    exact h₃.go P₃ vc) fun _ _ e => e) hm
theorem WT_Not {x : Expr} {pos : Pos} {Q : Bool → S → Prop} (h : WT X x σ (fun b σ₁ => Q (!b) σ₁) E) : WT X (.UnaryOp .Not x pos) σ Q E := fun _ st =>
  wpAny_isTrue_Not (h.run (Post.refl st) fun _ _ _ _ _ P₁ e q => by subst e; exact ⟨_, _, P₁, rfl, q⟩)
theorem WT_value {e : Expr} {Q : Bool → S → Prop} (h : WE X e σ (fun a σ₁ => Tr X a σ₁ Q E) E) (he : ∀ env whole, isTrue e env whole = (do let v ← whole; standAt e.pos; holding [v] (truthy v))) : WT X e σ Q E := fun _ st =>
  wpAny_isTrue_value (h.run (Post.refl st) fun _ _ _ _ _ P₁ va h₁ => h₁.go P₁ va) (he _ _)
theorem WT_And2 {x y : Expr} {pos : Pos} {Q : Bool → S → Prop} (h : WT X x σ (fun b σ₁ => if b then WT X y σ₁ Q E else Q false σ₁) E) : WT X (.BoolOp .And [x, y] pos) σ Q E := fun _ st =>
  wpAny_isTrue_BoolOp (wpAny_allTrue_And_cons (h.run (Post.refl st) fun _ _ _ _ _ P₁ e q => by
    subst e
    split at q
    · rename_i e; subst e
      rw [if_pos rfl]
      refine wpAny_allTrue_And_cons (q.run P₁ fun _ _ _ _ _ P₂ e q => ?_)
      subst e
      split
      · rename_i e; subst e; exact wpAny_allTrue_And_nil ⟨_, _, P₂, rfl, q⟩
      · rename_i e; rw [Bool.not_eq_true] at e; subst e; exact ⟨_, _, P₂, rfl, q⟩
    · rename_i e; rw [Bool.not_eq_true] at e; subst e
      exact ⟨_, _, P₁, rfl, q⟩))
theorem W_Or {x y : Expr} {pos : Pos} {Q : V → S → Prop} (h : WE X x σ (fun a σ₁ => Tr X a σ₁ (fun b σ₂ => if b then Q a σ₂ else WE X y σ₂ Q E) E) E) : WE X (.BoolOp .Or [x, y] pos) σ Q E := fun _ st =>
  wpAny_Or2 (h.run (Post.refl st) fun _ s₁ _ _ _ P₁ va h₁ => wpAny_mono (h₁ _ s₁ P₁.st va) (fun b s₂ q => by
    obtain ⟨c, σ₃, p₃, e, h₃⟩ := q
    have P₃ := P₁.trans p₃
    cases e
    cases b
    · simp only [Bool.false_eq_true, if_false] at h₃ ⊢
      exact h₃.go P₃
    · simp only [if_true] at h₃ ⊢
      exact ⟨_, _, P₃, va.mono p₃.ext, h₃⟩) fun _ _ e => e.after P₁)
theorem W_IfExp {t x y : Expr} {pos : Pos} {Q : V → S → Prop} (h : WT X t σ (fun b σ₁ => if b then WE X x σ₁ Q E else WE X y σ₁ Q E) E) : WE X (.IfExp t x y pos) σ Q E := fun _ st =>
  wpAny_IfExp (h.run (Post.refl st) fun b _ _ _ _ P₁ e h₁ => by
    subst e
    cases b
    · simp only [Bool.false_eq_true, if_false] at h₁ ⊢
      exact h₁.go P₁
    · simp only [if_true] at h₁ ⊢
      exact h₁.go P₁)
theorem W_Unary {op : UnaryOp} {x : Expr} {pos : Pos} {Q : V → S → Prop} (h : WE X x σ (fun a σ₁ => Op1 X (unaryOp op) a σ₁ Q E) E) : WE X (.UnaryOp op x pos) σ Q E := fun _ st =>
  wpAny_UnaryOp (h.run (Post.refl st) fun _ _ _ _ _ P₁ va h₁ => h₁.go P₁ va)
theorem WA_nil {Q : List V → S → Prop} (q : Q [] σ) : W X (spliced []) VMs σ Q E := fun _ st => spliced_nil (qw_self st .nil q)
theorem WA_cons {e : Expr} {rest : List (Bool × Sem Value)} {Q : List V → S → Prop} (h : WE X e σ (fun a σ₁ => W X (spliced rest) VMs σ₁ (fun as σ₂ => Q (a :: as) σ₂) E) E) : W X (spliced ((false, eval e X.env) :: rest)) VMs σ Q E := fun _ st =>
  spliced_cons (h.run (Post.refl st) fun _ _ _ _ _ P₁ va h₁ => h₁.run P₁ fun _ _ _ _ p₂ P₂ vs q => ⟨_, _, P₂, .cons (va.mono p₂.ext) vs, q⟩)
theorem st_push {s : Shared} (st : St X σ s.heap) (o : Obj) : Post X σ s σ { s with heap := s.heap.push o } :=
  Post.keeps st _ s.toks rfl fun _ _ e => Heap.get?_push_of_some _ e
theorem new_none {s : Shared} (st : St X σ s.heap) : σ.hp s.heap.objs.size = none := by
  cases e : σ.hp s.heap.objs.size with
  | none => rfl
  | some o =>
    obtain ⟨ob, g⟩ := (st.own _ o e).1.there
    exact absurd (Heap.lt_size g) (Nat.lt_irrefl _)
theorem new_off {s : Shared} (st : St X σ s.heap) : ¬ σ.mu s.heap.objs.size := fun hm => hm (new_none st)
theorem W_Tuple {elts : List Expr} {k : Nat} {pos : Pos} {Q : V → S → Prop} (h : W X (spliced (backTo pos (starEach elts X.env))) VMs σ (fun as σ₁ => as.length ≤ 1000 ∧ Q (.tup as) σ₁) E) : WE X (.Tuple elts k pos) σ Q E := fun _ st =>
  Tuple_ (h.run (Post.refl st) fun vs s₁ as σ₁ _ P₁ va q => wpAny_newObj_type (⟨_, σ₁, P₁.trans (st_push P₁.st _), .tup (Heap.get?_push_size _ rfl) rfl rfl (new_off P₁.st) (va.mono (st_push P₁.st _).ext), q.2⟩)
    (by show vs.toArray.size ≤ sizeLine; rw [List.size_toArray, va.length, sizeLine_eq]; omega))
theorem WXs_nil {Q : FV → S → Prop} (q : Q .next σ) : WXs X [] σ Q E := fun _ st => wpAny_execs_nil ⟨.next, σ, Post.refl st, trivial, q⟩
theorem WXs_cons {st : Stmt} {rest : List Stmt} {Q : FV → S → Prop} (h : WX X st σ (fun f σ₁ => match f with | .next => WXs X rest σ₁ Q E | f => Q f σ₁) E) : WXs X (st :: rest) σ Q E := fun _ sst =>
  wpAny_execs_cons (h.run (Post.refl sst) fun f s₁ g σ₁ _ P₁ r q => by
    cases f <;> cases g <;> first | exact r.elim | exact q.go P₁ | exact ⟨_, _, P₁, r, q⟩)
theorem WX_If {test : Expr} {body orelse : List Stmt} {pos : Pos} {Q : FV → S → Prop} (h : WT X test σ (fun b σ₁ => if b then WXs X body σ₁ Q E else WXs X orelse σ₁ Q E) E) : WX X (.If test body orelse pos) σ Q E := fun _ st =>
  wpAny_If (h.run (Post.refl st) fun b _ _ _ _ P₁ e h₁ => by
    subst e
    cases b
    · simp only [Bool.false_eq_true, if_false] at h₁ ⊢
      exact h₁.go P₁
    · simp only [if_true] at h₁ ⊢
      exact h₁.go P₁)
theorem WX_Return {e : Expr} {pos : Pos} {Q : FV → S → Prop} (h : WE X e σ (fun a σ₁ => Q (.ret a) σ₁) E) : WX X (.Return (some e) pos) σ Q E := fun _ st =>
  wpAny_Return_some (h.run (Post.refl st) fun _ _ a _ _ P₁ va q => ⟨.ret a, _, P₁, va, q⟩)
theorem WX_Return0 {pos : Pos} {Q : FV → S → Prop} (q : Q (.ret .none) σ) : WX X (.Return none pos) σ Q E := fun _ st => wpAny_Return_none ⟨.ret .none, _, Post.refl st, VM.none, q⟩
theorem WX_Expr {e : Expr} {pos : Pos} {Q : FV → S → Prop} (ok : Ok X n) (h : WE X e σ (fun _ σ₁ => Q .next σ₁) E) (hs : ∀ env, swapsWith e none pos.line env = pure false) : WX X (.Expr e pos) σ Q E := fun _ st =>
  wpAny_Expr_any (h.run (Post.refl st) fun _ _ a _ _ P₁ va q => ⟨.next, _, P₁, trivial, q⟩) (by unfold interactive; rw [ok.kind]; rfl) (hs _)
noncomputable def put (fs : List (Str × V)) (x : Str) (d : V) : List (Str × V) := (x, d) :: fs.filter (fun p => !(p.1 == x))
theorem lk_put_self {fs : List (Str × V)} {x : Str} {d : V} : lk (put fs x d) x = some d := by simp [lk, put, List.lookup]
theorem lk_put_ne {fs : List (Str × V)} {x y : Str} {d : V} (h : y ≠ x) : lk (put fs x d) y = lk fs y := by
  have e : (y == x) = false := by simpa using h
  unfold lk put
  rw [List.lookup_cons, e]
  dsimp only
  induction fs with
  | nil => rfl
  | cons p r ih =>
    rw [List.filter_cons]
    by_cases q : p.1 = x
    · have e1 : (p.1 == x) = true := by simpa using q
      simp only [e1, Bool.not_true, Bool.false_eq_true, if_false]
      rw [ih, List.lookup_cons]
      have : (y == p.1) = false := by simpa [q] using h
      rw [this]
    · have e1 : (p.1 == x) = false := by simpa using q
      simp only [e1, Bool.not_false, if_true]
      rw [List.lookup_cons, List.lookup_cons, ih]
theorem Post.frame {s : Shared} {h' : Heap} {tk : Nat} {loc : List (Str × V)} {m : Str → Option Value} (ok : Ok X n) (st : St X σ s.heap) (hs : Heap.SameBut X.env.locals s.heap h') (hn : h'.Ns X.env.locals m)
    (hm : ∀ x d, lk loc x = some d → ∃ v, m x = some v ∧ VM σ.mu s.heap v d) : Post X σ s { σ with loc := loc } { s with heap := h', toks := tk } := by
  obtain ⟨m₀, hn₀, _⟩ := st.names
  obtain ⟨oL, esL, epL, gL, dL, _⟩ := hn₀
  have x : Ext X.env.locals X.prot σ.mu s.heap σ.mu h' := by
    refine ⟨fun a o e nm q => ⟨(hs.2 a fun z => ?_).trans e, nm⟩, fun a o e nm l q => ⟨nm, o.slots, (hs.2 a l).trans e⟩, fun a ha o e => ⟨(hs.2 a fun z => ?_).trans e, st.protOff a ha⟩⟩
    · rw [z, gL] at e; cases e; rw [dL] at q; exact q
    · exact ok.locProt (z ▸ ha)
  refine ⟨⟨h', tk, rfl⟩, x, ⟨fun b o e => (hs.2 b (Nat.ne_of_lt (Nat.lt_of_lt_of_le (Heap.lt_size e) ok.above))).trans (st.base b o e), ⟨m, hn, fun y d e => let ⟨v, a, b⟩ := hm y d e; ⟨v, a, b.mono x⟩⟩, fun a o q => ?_, st.locOff, fun a ha => ?_, fun e he => ?_⟩⟩
  · obtain ⟨y, z⟩ := st.own a o q
    exact ⟨y.mono x (hs.2 a fun e => st.locOff (by rw [← e]; show σ.hp a ≠ none; rw [q]; exact Option.some_ne_none o)), z⟩
  · obtain ⟨z, o, vs, g, d⟩ := st.prot a ha
    exact ⟨z, o, vs, (hs.2 a fun e => ok.locProt (e ▸ ha)).trans g, d⟩
  · obtain ⟨z, L, o, es, ep, hf, hnb, hmu, g, d⟩ := st.frs e he
    by_cases q : L = X.env.locals
    · obtain ⟨o', es', ep', g', d', _⟩ := hn
      exact ⟨z, L, o', es', ep', hf, hnb, hmu, q ▸ g', d'⟩
    · exact ⟨z, L, o, es, ep, hf, hnb, hmu, (hs.2 L q).trans g, d⟩
theorem store_local {x : Str} {d : V} {Q : Unit → S → Prop} (ok : Ok X n) (hx : X.env.kindOf x = some .local) (q : Q () { σ with loc := put σ.loc x d }) {σ₀ : S} {s₀ s : Shared} (P : Post X σ₀ s₀ σ s) {v : Value} (vm : VM σ.mu s.heap v d) :
    wpAny (model X.prog X.w) X.A (storeName X.env x v) (Qw X σ₀ s₀ RU Q) (Ew X σ₀ s₀ E) s := by
  obtain ⟨m, hn, hm⟩ := P.st.names
  refine wpAny_storeName_local hx hn (fun h' hn' hs => ⟨(), _, P.trans (Post.frame ok P.st hs hn' fun y e he => ?_), trivial, q⟩) (by rw [ok.kind]; rfl)
  by_cases z : y = x
  · subst z
    rw [lk_put_self] at he
    cases he
    exact ⟨v, if_pos rfl, vm⟩
  · rw [lk_put_ne z] at he
    obtain ⟨w, a, b⟩ := hm y e he
    exact ⟨w, by rw [if_neg z]; exact a, b⟩
theorem WX_Assign {x : Str} {px pos : Pos} {e : Expr} {Q : FV → S → Prop} (ok : Ok X n) (hx : X.env.kindOf x = some .local) (h : WE X e σ (fun d σ₁ => Q .next { σ₁ with loc := put σ₁.loc x d }) E)
    (hs : ∀ env, swapsWith e (some (.Name x px)) pos.line env = pure false) : WX X (.Assign [.Name x px] e pos) σ Q E := fun _ st =>
  wpAny_Assign_Name (h.run (Post.refl st) fun v s₁ d σ₁ _ P₁ vm q => wpAny_mono (store_local (E := E) (Q := fun _ σ' => Q .next σ') ok hx q P₁ vm) (fun _ _ ⟨_, σ', P', _, q'⟩ => ⟨.next, σ', P', trivial, q'⟩) fun _ _ e => e) (hs _)
theorem WX_Aug {x : Str} {px pos : Pos} {e : Expr} {op : Operator} {d : V} {Q : FV → S → Prop} (ok : Ok X n) (hx : X.env.kindOf x = some .local) (hd : lk σ.loc x = some d)
    (h : WE X e σ (fun b σ₁ => Op2 X (inplaceOp op) d b σ₁ (fun r σ₂ => Q .next { σ₂ with loc := put σ₂.loc x r }) E) E) : WX X (.AugAssign (.Name x px) op e pos) σ Q E := fun _ st => by
  obtain ⟨m, hn, hm⟩ := st.names
  obtain ⟨v, hv, vm⟩ := hm x d hd
  refine wpAny_AugAssign_Name (wpAny_loadName_local ok.kind hx hn hv (h.run (Post.refl st) fun w s₁ b σ₁ p₁ P₁ wm h₁ => ?_))
  refine wpAny_mono (h₁.go P₁ (vm.mono p₁.ext) wm) (fun r s₂ q => ?_) fun _ _ e => e
  obtain ⟨c, σ₂, P₂, rm, h₂⟩ := q
  exact wpAny_mono (store_local (E := E) (Q := fun _ σ' => Q .next σ') ok hx h₂ P₂ rm) (fun _ _ ⟨_, σ', P', _, q'⟩ => ⟨.next, σ', P', trivial, q'⟩) fun _ _ e => e
end
end Mine
namespace Mine
open PySem PySem.W PySem.Calls PySem.Spec PyProof.Rows
section
variable {X : Cx} {n : Nat} {σ : S} {E : Value → S → Prop}
noncomputable def upd (hp : Addr → Option HO) (a : Addr) (o : HO) : Addr → Option HO := fun b => if b = a then some o else hp b
theorem upd_self {hp : Addr → Option HO} {a : Addr} {o : HO} : upd hp a o a = some o := if_pos rfl
theorem upd_ne {hp : Addr → Option HO} {a b : Addr} {o : HO} (h : b ≠ a) : upd hp a o b = hp b := if_neg h
theorem upd_upd {hp : Addr → Option HO} {a : Addr} {o o' : HO} : upd (upd hp a o) a o' = upd hp a o' := by
  funext b; unfold upd; split <;> rfl
theorem post_write {s : Shared} {h' : Heap} {tk : Nat} {a : Addr} {o : HO} (ok : Ok X n) (st : St X σ s.heap) (k : ∀ b o, b ≠ a → b ≠ X.env.locals → s.heap.get? b = some o → h'.get? b = some o)
    (hL : ∃ m, h'.Ns X.env.locals m ∧ ∀ x d, lk σ.loc x = some d → ∃ v, m x = some v ∧ VM σ.mu s.heap v d) (hown : σ.hp a ≠ none ∨ (s.heap.get? a = none))
    (om : (∀ v d, VM σ.mu s.heap v d → VM (S.mu { σ with hp := upd σ.hp a o }) h' v d) → (∀ es fs, Ents σ.mu s.heap es fs → Ents (S.mu { σ with hp := upd σ.hp a o }) h' es fs) → (∀ vs ds, VMs σ.mu s.heap vs ds → VMs (S.mu { σ with hp := upd σ.hp a o }) h' vs ds) → OM (S.mu { σ with hp := upd σ.hp a o }) h' a o) :
    Post X σ s { σ with hp := upd σ.hp a o } { s with heap := h', toks := tk } := by
  obtain ⟨m₀, hn₀, _⟩ := st.names
  obtain ⟨oL, esL, epL, gL, dL, _⟩ := id hn₀
  have hne : ∀ b ob, s.heap.get? b = some ob → ¬ σ.mu b → b ≠ a := fun b ob g nm e => by
    subst e
    rcases hown with q | q
    · exact nm q
    · rw [q] at g; cases g
  have nmu : ∀ b, ¬ σ.mu b → b ≠ a → ¬ S.mu { σ with hp := upd σ.hp a o } b := fun b nm ne q => nm (by
    have : upd σ.hp a o b ≠ none := q
    rwa [upd_ne ne] at this)
  have x : Ext X.env.locals X.prot σ.mu s.heap (S.mu { σ with hp := upd σ.hp a o }) h' := by
    refine ⟨fun b ob g nm q => ⟨k b ob (hne b ob g nm) (fun z => ?_) g, nmu b nm (hne b ob g nm)⟩, fun b ob g nm l q => ⟨nmu b nm (hne b ob g nm), ob.slots, k b ob (hne b ob g nm) l g⟩, fun b hb ob g => ?_⟩
    · rw [z, gL] at g; cases g; rw [dL] at q; exact q
    · have nm := st.protOff b hb
      exact ⟨k b ob (hne b ob g nm) (fun z => ok.locProt (z ▸ hb)) g, nmu b nm (hne b ob g nm)⟩
  have La : X.env.locals ≠ a := hne _ _ gL st.locOff
  have ba : X.base.get? a = none := by
    rcases hown with q | q
    · cases e : σ.hp a with
      | none => exact absurd e q
      | some o' => exact (st.own a o' e).2
    · cases e : X.base.get? a with
      | none => rfl
      | some o' => have := st.base a o' e; rw [q] at this; cases this
  refine ⟨⟨h', tk, rfl⟩, x, ⟨fun b ob e => k b ob (fun z => by rw [z, ba] at e; cases e) (Nat.ne_of_lt (Nat.lt_of_lt_of_le (Heap.lt_size e) ok.above)) (st.base b ob e), ?_, fun b ob e => ?_, nmu _ st.locOff La, fun p hp => ?_, fun e he => ?_⟩⟩
  · obtain ⟨m, hn, hm⟩ := hL
    exact ⟨m, hn, fun y d e => let ⟨v, q, r⟩ := hm y d e; ⟨v, q, r.mono x⟩⟩
  · by_cases z : b = a
    · subst z
      have e' : Mine.upd σ.hp b o b = some ob := e
      rw [upd_self] at e'
      cases e'
      exact ⟨om (fun _ _ q => q.mono x) (fun _ _ q => q.mono x) (fun _ _ q => q.mono x), ba⟩
    · replace e : Mine.upd σ.hp a o b = some ob := e
      rw [upd_ne z] at e
      obtain ⟨y, r⟩ := st.own b ob e
      obtain ⟨oc, g⟩ := y.there
      refine ⟨y.mono x ((k b oc z (fun q => st.locOff (by rw [← q]; show σ.hp b ≠ none; rw [e]; exact Option.some_ne_none ob)) g).trans g.symm), r⟩
  · obtain ⟨z, ob, vs, g, d⟩ := st.prot p hp
    exact ⟨nmu p z (hne p ob g z), ob, vs, k p ob (hne p ob g z) (fun q => ok.locProt (q ▸ hp)) g, d⟩
  · obtain ⟨z, L, ob, es, ep, hf, hn, hm, g, d⟩ := st.frs e he
    by_cases q : L = X.env.locals
    · obtain ⟨m, hnn, _⟩ := hL
      obtain ⟨o', es', ep', g', d', _⟩ := hnn
      exact ⟨z, L, o', es', ep', hf, hn, nmu L hm (hne L ob g hm), q ▸ g', d'⟩
    · exact ⟨z, L, ob, es, ep, hf, hn, nmu L hm (hne L ob g hm), k L ob (hne L ob g hm) q g, d⟩
noncomputable def restOf (base h : Heap) (L a : Addr) : List (Addr × Obj) :=
  (List.range h.objs.size).filterMap fun b => if b = L ∨ b = a ∨ (base.get? b).isSome then none else (h.get? b).map fun o => (b, o)
theorem restOf_mem {base h : Heap} {L a : Addr} {p : Addr × Obj} (hp : p ∈ restOf base h L a) : h.get? p.1 = some p.2 ∧ p.1 ≠ L ∧ p.1 ≠ a ∧ base.get? p.1 = none := by
  obtain ⟨b, _, e⟩ := List.mem_filterMap.mp hp
  split at e
  · cases e
  · rename_i q
    rw [not_or, not_or] at q
    obtain ⟨o, g, rfl⟩ := Option.map_eq_some_iff.mp e
    exact ⟨g, q.1, q.2.1, by simpa using q.2.2⟩
theorem mem_restOf {base h : Heap} {L a b : Addr} {o : Obj} (g : h.get? b = some o) (h1 : b ≠ L) (h2 : b ≠ a) (h3 : base.get? b = none) : (b, o) ∈ restOf base h L a := by
  refine List.mem_filterMap.mpr ⟨b, List.mem_range.mpr (Heap.lt_size g), ?_⟩
  rw [if_neg (by rw [h3]; simp [h1, h2]), g]; rfl
theorem restOf_news {base h : Heap} {L a : Addr} : News base L h (restOf base h L a) := fun p hp =>
  let ⟨g, h1, _, h3⟩ := restOf_mem hp
  ⟨g, h1, h3⟩
theorem kept_of {base h h' : Heap} {L a : Addr} {m : Str → Option Value} (F : Fr base L h' m) (sb : base.StaysIn h) (N : News base L h' (restOf base h L a)) : ∀ b o, b ≠ a → b ≠ L → h.get? b = some o → h'.get? b = some o := fun b o h1 h2 g => by
  cases e : base.get? b with
  | none => exact (N _ (mem_restOf g h2 h1 e)).1
  | some o' =>
    have := sb b o' e
    rw [g] at this
    cases this
    exact F.keep b o e
theorem Ents.getL {mu : Addr → Prop} {h : Heap} {es : List DictEntry} {fs : List (Str × V)} (x : Ents mu h es fs) {name : Str} : (∀ d, lk fs name = some d → ∃ v, PySem.W.getL name es = some (some v) ∧ VM mu h v d) ∧ (lk fs name = none → PySem.W.getL name es = some none) := by
  induction x with
  | nil => exact ⟨fun d e => by simp [lk] at e, fun _ => rfl⟩
  | @cons e es x t d fs hk vm r ih =>
    have ik : e.key.isStr name = (x == name) := by rw [hk]; rfl
    have rk : e.refKey = false := by unfold DictEntry.refKey; rw [hk]
    by_cases q : x = name
    · subst q
      refine ⟨fun d' e' => ⟨e.val, ?_, ?_⟩, fun e' => ?_⟩
      · unfold PySem.W.getL; rw [List.find?_cons, ik]; simp
      · simp [lk, List.lookup] at e'; subst e'; exact vm
      · simp [lk, List.lookup] at e'
    · have q1 : (x == name) = false := by simpa using q
      have q2 : (name == x) = false := by simpa using fun z => q z.symm
      have gl : PySem.W.getL name (e :: es) = PySem.W.getL name es := by
        unfold PySem.W.getL; rw [List.find?_cons, ik, q1]; simp [rk]
      have ll : lk ((x, d) :: fs) name = lk fs name := by unfold lk; rw [List.lookup_cons, q2]
      rw [gl, ll]; exact ih
noncomputable def updF : List (Str × V) → Str → V → List (Str × V)
  | [], x, d => [(x, d)]
  | (y, e) :: r, x, d => if y == x then (y, d) :: r else (y, e) :: updF r x d
theorem Ents.put {mu : Addr → Prop} {h : Heap} {es : List DictEntry} {fs : List (Str × V)} (x : Ents mu h es fs) {name : Str} {hs : Int} {tk : Tok} {v : Value} {d : V} (vm : VM mu h v d) : Ents mu h (putL name hs (.str name tk) v es) (updF fs name d) := by
  induction x with
  | nil => exact .cons rfl vm .nil
  | @cons e es x t d' fs hk vm' r ih =>
    have ik : e.key.isStr name = (x == name) := by rw [hk]; rfl
    unfold putL updF
    rw [ik]
    split
    · exact .cons hk vm r
    · exact .cons hk vm' ih
theorem Ents.length {mu : Addr → Prop} {h : Heap} {es : List DictEntry} {fs : List (Str × V)} (x : Ents mu h es fs) : es.length = fs.length := by
  induction x with
  | nil => rfl
  | cons _ _ _ ih => simp [ih]
theorem updF_length (fs : List (Str × V)) (x : Str) (d : V) : (updF fs x d).length ≤ fs.length + 1 := by
  induction fs with
  | nil => simp [updF]
  | cons p r ih => obtain ⟨y, e⟩ := p; unfold updF; split <;> simp <;> omega
structure KGet (K : Frag) (C : Addr) (name : Str) : Prop where
  get : plainGet K C name = true
  dict : hasDictIn K C = true
  cls : ∃ attr, findIn K (.ref C) name = some attr ∧ noGet K attr = true
structure KSet (K : Frag) (C : Addr) (name : Str) : Prop where
  set : findIn K (.ref C) "__setattr__" = some (some (.builtin "object.__setattr__"))
  plain : plainOver K C = true
  taker : takerIn K C name = some none
  dict : hasDictIn K C = true
structure KMeth (K : Frag) (C : Addr) (name : Str) (f : Addr) : Prop where
  get : plainGet K C name = true
  cls : findIn K (.ref C) name = some (some (.ref f))
  fn : isFn K (.ref f) = true
  keep : keepIn K (.ref f) = true
theorem VM.handed {mu : Addr → Prop} {h : Heap} {v : Value} {d : V} (x : VM mu h v d) (hd : ∀ w, d ≠ .lit w) : handedIn v = true := by
  cases x <;> first | rfl | exact absurd rfl (hd _)
theorem inst_at {a C dx : Addr} {fs : List (Str × V)} {h : Heap} (st : St X σ h) (h1 : σ.hp a = some (.inst C dx)) (h2 : σ.hp dx = some (.dict fs)) : ∃ es k, InstAt h a (instObj C dx) C (some (dictOf es k)) ∧ Ents σ.mu h es fs ∧ es.length ≤ 100 := by
  obtain ⟨g1, _⟩ := st.own a _ h1
  obtain ⟨⟨es, k, g2, en, hl⟩, _⟩ := st.own dx _ h2
  exact ⟨es, k, ⟨g1, rfl, rfl, g2⟩, en, hl⟩
theorem get_field {a C dx : Addr} {fs : List (Str × V)} {name : Str} {d : V} {ex : Bool} {Q : V → S → Prop} (ok : Ok X n) (h1 : σ.hp a = some (.inst C dx)) (h2 : σ.hp dx = some (.dict fs)) (kg : KGet X.K C name)
    (hd : lk fs name = some d) (hl : ∀ w, d ≠ .lit w) (q : Q d σ) : Op1 X (fun v => getAttr v name ex) (.ref a) σ Q E := by
  intro v s st vm
  obtain rfl := vm.refI
  obtain ⟨m, F, _⟩ := st.fr ok
  obtain ⟨es, k, I, en, _⟩ := inst_at st h1 h2
  obtain ⟨w, e, wm⟩ := en.getL.1 d hd
  obtain ⟨attr, c1, c2⟩ := kg.cls
  exact get_own F ok.inK I kg.get kg.dict c1 c2 e (wm.handed hl) (qw_same st _ wm q)
theorem W_Attr {x attr : Str} {xp pos : Pos} {Q : V → S → Prop} (h : WE X (.Name x xp) σ (fun a σ₁ => Op1 X (fun v => getAttr v attr true) a σ₁ Q E) E) : WE X (.Attribute (.Name x xp) attr pos) σ Q E := fun _ st =>
  Attribute_name (h.run (Post.refl st) fun _ _ _ _ _ P₁ va h₁ => h₁.go P₁ va)
theorem set_field {a C dx : Addr} {fs : List (Str × V)} {name : Str} {d : V} {Q : Unit → S → Prop} (ok : Ok X n) (h1 : σ.hp a = some (.inst C dx)) (h2 : σ.hp dx = some (.dict fs)) (ks : KSet X.K C name)
    (hlen : fs.length ≤ 90) (q : Q () { σ with hp := upd σ.hp dx (.dict (updF fs name d)) }) {σ₀ : S} {s₀ s : Shared} (P : Post X σ₀ s₀ σ s) {v : Value} (vm : VM σ.mu s.heap v d) :
    wpAny (model X.prog X.w) X.A (setAttr (.ref a) name v) (Qw X σ₀ s₀ RU Q) (Ew X σ₀ s₀ E) s := by
  have st := P.st
  obtain ⟨m, F, hm⟩ := st.fr ok
  obtain ⟨es, k, I, en, _⟩ := inst_at st h1 h2
  have hl : (PySem.W.getL name es).isSome = true := by
    cases e : lk fs name with
    | none => rw [en.getL.2 e]; rfl
    | some d' => obtain ⟨w, e', _⟩ := en.getL.1 d' e; rw [e']; rfl
  obtain ⟨⟨es₂, k₂, g2, _⟩, nb⟩ := st.own dx _ h2
  have g2' : s.heap.get? dx = some (dictOf es k) := I.dict
  have dL : dx ≠ X.env.locals := fun e => st.locOff (by rw [← e]; show σ.hp dx ≠ none; rw [h2]; exact Option.some_ne_none _)
  have N : News X.base X.env.locals s.heap ((dx, dictOf es k) :: restOf X.base s.heap X.env.locals dx) := fun p hp => by
    rcases List.mem_cons.mp hp with rfl | hp
    · exact ⟨g2', dL, nb⟩
    · exact restOf_news p hp
  have el := en.length
  have en' := en.put (name := name) (hs := PyData.keyHash X.w.params name) (tk := s.toks + 1) vm
  have el' := en'.length
  have ul := updF_length fs name d
  refine set_dict F ok.inK N I rfl ks.set ks.plain ks.taker ks.dict hl rfl (Upd.head fun p hp => (restOf_mem hp).2.2.1) (by omega) fun h' F' N' => ?_
  refine ⟨(), _, P.trans (post_write ok st (kept_of F' st.base (fun p hp => N' p (.tail _ hp))) ⟨m, F'.ns, hm⟩ (.inl (by rw [h2]; exact Option.some_ne_none _)) fun _ me _ => ?_), trivial, q⟩
  exact ⟨_, _, (N' _ (.head _)).1, me _ _ en', by omega⟩
end
end Mine
namespace Mine
open PySem PySem.W PySem.Calls PySem.Spec PyProof.Rows
section
variable {X : Cx} {n : Nat} {σ : S} {E : Value → S → Prop}
noncomputable def Cx.frs (X : Cx) : List Addr := (X.fenv :: X.outer).filterMap (·.frame)
theorem frs_of {h : Heap} (st : St X σ h) {b : Addr} (hb : b ∈ X.frs) : X.base.get? b = none ∧ ¬ σ.mu b ∧ ∃ o es ep, h.get? b = some o ∧ o.data = .dict es ep := by
  obtain ⟨e, he, hf⟩ := List.mem_filterMap.mp hb
  obtain ⟨_, L, o, es, ep, hf', hn, hm, g, d⟩ := st.frs e he
  rw [hf'] at hf
  cases hf
  exact ⟨hn, hm, o, es, ep, g, d⟩
theorem post_slots {s : Shared} {h' : Heap} {tk : Nat} {bad : List Addr} (st : St X σ s.heap) (k1 : ∀ b o, s.heap.get? b = some o → b ∉ X.frs → b ∉ bad → h'.get? b = some o) (k2 : s.heap.UpToSlots h')
    (hb : ∀ b ∈ bad, (X.base.get? b = none ∧ ¬ σ.mu b) ∧ b ∉ X.prot ∧ ∃ o vs, s.heap.get? b = some o ∧ o.data = .fields vs) : Post X σ s σ { s with heap := h', toks := tk } := by
  have nf : ∀ b o, s.heap.get? b = some o → (∀ es ep, o.data ≠ .dict es ep) → b ∉ X.frs := fun b o g q hm => by
    obtain ⟨_, _, o', es, ep, g', d⟩ := frs_of st hm
    rw [g] at g'; cases g'; exact q _ _ d
  have nb : ∀ b o, s.heap.get? b = some o → (∀ vs, o.data ≠ .fields vs) → b ∉ bad := fun b o g q hm => by
    obtain ⟨_, _, o', vs, g', d⟩ := hb b hm
    rw [g] at g'; cases g'; exact q _ d
  have x : Ext X.env.locals X.prot σ.mu s.heap σ.mu h' := by
    refine ⟨fun a o g nm q => ⟨k1 a o g (nf a o g ?_) (nb a o g ?_), nm⟩, fun a o g nm _ q => ⟨nm, k2 a o g q⟩, fun a ha o g => ?_⟩
    · intro es ep d; rw [d] at q; exact q
    · intro vs d; rw [d] at q; exact q
    · obtain ⟨z, o', vs, g', d, _⟩ := st.prot a ha
      rw [g] at g'; cases g'
      exact ⟨k1 a o g (nf a o g fun es ep d' => by rw [d] at d'; cases d') (fun hm => (hb a hm).2.1 ha), z⟩
  refine ⟨⟨h', tk, rfl⟩, x, ⟨fun b o e => k1 b o (st.base b o e) (fun hm => ?_) (fun hm => ?_), ?_, fun a o e => ?_, st.locOff, fun a ha => ?_, fun e he => ?_⟩⟩
  · have := (frs_of st hm).1; rw [e] at this; cases this
  · have := (hb b hm).1.1; rw [e] at this; cases this
  · obtain ⟨m, hn, hm⟩ := st.names
    exact ⟨m, k2.ns hn, fun y d e => let ⟨v, q, r⟩ := hm y d e; ⟨v, q, r.mono x⟩⟩
  · obtain ⟨y, z⟩ := st.own a o e
    obtain ⟨ob, g⟩ := y.there
    exact ⟨y.mono x ((k1 a ob g (fun hm => (frs_of st hm).2.1 (by show σ.hp a ≠ none; rw [e]; exact Option.some_ne_none _)) (fun hm => (hb a hm).1.2 (by show σ.hp a ≠ none; rw [e]; exact Option.some_ne_none _))).trans g.symm), z⟩
  · obtain ⟨z, o', vs, g', d⟩ := st.prot a ha
    exact ⟨z, o', vs, (x.watch a ha o' g').1, d⟩
  · obtain ⟨z, L, o, es, ep, hf, hn, hm, g, d⟩ := st.frs e he
    obtain ⟨sl, g'⟩ := k2 L o g fun vs q => by rw [d] at q; cases q
    exact ⟨z, L, _, es, ep, hf, hn, hm, g', d⟩
noncomputable def ExcTb (X : Cx) (mu : Addr → Prop) (h : Heap) (e : Addr) (cls fl : Value) : Prop :=
  (X.base.get? e = none ∧ ¬ mu e) ∧ e ∉ X.prot ∧ ∃ oe vs a0 T oT ts, h.get? e = some oe ∧ oe.cls = cls ∧ oe.data = .fields vs ∧ (vs[0]? = some a0 ∧ Ctx0 cls vs) ∧ vs[1]? = some (.ref T) ∧ (X.base.get? T = none ∧ ¬ mu T) ∧ T ∉ X.prot ∧ T ≠ e ∧
    h.get? T = some oT ∧ oT.data = .fields ts ∧ ts[3]? = some fl
theorem ExcTb.own {mu : Addr → Prop} {h : Heap} {e : Addr} {cls : Value} (x : ExcTb X mu h e cls (rawInt X.L)) : ExcAt X mu h e cls := by
  obtain ⟨a, b, oe, vs, a0, T, oT, ts, g, c, d, v0, v1, bT, pT, ne, gT, dT, v3⟩ := x
  exact ⟨a, b, oe, vs, a0, g, c, d, v0, .inr ⟨T, oT, ts, v1, bT, pT, ne, gT, dT, .inr v3⟩⟩
theorem set_flight {s : Shared} {e : Addr} {cls fl : Value} {fr : Option Addr} {Q : Unit → Shared → Prop} {E' : Value → Shared → Prop} {A : Around} (st : St X σ s.heap) (x : ExcTb X σ.mu s.heap e cls fl)
    (h : ∀ h', Post X σ s σ { s with heap := h' } → ExcTb X σ.mu h' e cls (fr.elim .none fun f => rawInt f) → Q () { s with heap := h' }) : wpAny (model X.prog X.w) A (setFlight (.ref e) fr) Q E' s := by
  obtain ⟨be, pe, oe, vs, a0, T, oT, ts, g, c, d, v0, v1, bT, pT, ne, gT, dT, v3⟩ := x
  have hsz3 : 3 < ts.size := (Array.getElem?_eq_some_iff.mp v3).1
  have other : ∀ b, b ≠ T → (s.heap.update T (Obj.mapFields (·.setIfInBounds 3 (fr.elim Value.none fun f => rawInt f)))).get? b = s.heap.get? b :=
    fun b hb => Heap.get?_update_other _ _ (Ne.symm hb)
  unfold setFlight
  refine wpAny_bind (wpAny_field g d v1 ?_)
  rw [if_pos (show (Value.ref T != Value.none) = true from by simp)]
  refine wpAny_setField gT dT hsz3 (h _ ?_ ?_)
  · refine post_slots (bad := [T]) st (fun b o g' _ nb => (other b fun q => nb (by simp [q])).trans g') (fun b o g' nf => ⟨o.slots, (other b fun q => ?_).trans g'⟩) fun b hb => ?_
    · rw [q, gT] at g'; cases g'; exact nf _ dT
    · rw [List.mem_singleton.mp hb]; exact ⟨bT, pT, oT, ts, gT, dT⟩
  · exact ⟨be, pe, oe, vs, a0, T, _, _, (other e (Ne.symm ne)).trans g, c, d, v0, v1, bT, pT, ne, Heap.get?_update_self _ gT (Obj.isFreed_of_fields (Obj.data_mapFields dT _)), Obj.data_mapFields dT _, by simp [hsz3]⟩
theorem entry_new {s : Shared} {e : Addr} {oe : Obj} {vs : Array Value} {head : Value} {hadNext : Bool} {Q : Unit → Shared → Prop} {E' : Value → Shared → Prop} {A : Around} (ok : Ok X n) (st : St X σ s.heap) (hA : A.frames = some (X.fenv :: X.outer))
    (he : s.heap.get? e = some oe) (hd : oe.data = .fields vs) (hsz : 1 < vs.size)
    (h : ∀ h' T ts, (∀ b o, b ≠ e → b ∉ X.frs → s.heap.get? b = some o → h'.get? b = some o) → s.heap.UpToSlots h' → s.heap.get? T = none → T ≠ e → h'.get? e = some (oe.mapFields (·.setIfInBounds 1 (.ref T))) →
      (∃ oT, h'.get? T = some oT ∧ oT.data = .fields ts) → ts[3]? = some (rawInt X.L) → Q () { s with heap := h' }) :
    wpAny (model X.prog X.w) A (do let a ← frameOf X.fenv; let pl ← entryPlaceOf X.L hadNext; let b ← EntryCells.newEntry head a .none (rawInt X.L) .none pl; setField (.ref e) 1 b) Q E' s := by
  have hl := funs_of st.frs
  have hene : e ∉ X.frs := fun hm => by
    obtain ⟨_, _, o', es, ep, g', d'⟩ := frs_of st hm
    rw [he] at g'; cases g'; rw [hd] at d'; cases d'
  refine wpAny_bind (wpAny_frameOf_fun hA hl ok.frame fun h₁ hs₁ => ?_)
  refine wpAny_bind (wpAny_entryPlaceOf fun pl hpl => ?_)
  unfold EntryCells.newEntry newFields
  refine wpAny_bind (wpAny_newObj_type ?_ (hpl.sizeOk5 _ _ _ _ _))
  generalize hts : ([head, .ref X.L, .none, rawInt X.L, .none] ++ (if pl.isEmpty then List.replicate 6 Value.none else pl)).toArray = ts
  have he₁ : h₁.get? e = some oe := (hs₁.2.1 e hene).trans he
  have he₂ := Heap.get?_push_of_some (h := h₁) { cls := .type "traceback", dict := none, data := .fields ts } he₁
  have hTe : h₁.objs.size ≠ e := Nat.ne_of_gt (Heap.lt_size he₁)
  have hd₃ := Obj.data_mapFields hd (·.setIfInBounds 1 (Value.ref h₁.objs.size))
  have keep : ∀ b o, b ≠ e → h₁.get? b = some o → ((h₁.push { cls := .type "traceback", dict := none, data := .fields ts }).update e (Obj.mapFields (·.setIfInBounds 1 (Value.ref h₁.objs.size)))).get? b = some o := fun b o hbe hb => by
    rw [Heap.get?_update_other _ _ (Ne.symm hbe)]
    exact Heap.get?_push_of_some _ hb
  refine wpAny_setField he₂ hd hsz (h _ h₁.objs.size ts (fun b o ne nf g => keep b o ne ((hs₁.2.1 b nf).trans g)) (fun b o g nf => ?_) ?_ hTe ?_ ⟨{ cls := .type "traceback", dict := none, data := .fields ts }, ?_, rfl⟩ ?_)
  · obtain ⟨sl, g'⟩ := hs₁.2.2 b o g
    exact ⟨sl, keep b _ (fun q => by rw [q, he] at g; cases g; exact nf _ hd) g'⟩
  · rw [hs₁.1]; exact Heap.get?_none_of_le (Nat.le_refl _)
  · exact Heap.get?_update_self _ he₂ (Obj.isFreed_of_fields hd₃)
  · exact (Heap.get?_update_other _ _ (Ne.symm hTe)).trans (Heap.get?_push_size h₁ rfl)
  · rw [← hts]; simp
theorem note_any {s : Shared} {e : Addr} {cls : Value} {Q : Unit → Shared → Prop} {E' : Value → Shared → Prop} (ok : Ok X n) (he : X.env = X.fenv) (st : St X σ s.heap) (x : ExcAt X σ.mu s.heap e cls)
    (h : ∀ h', Post X σ s σ { s with heap := h' } → ExcTb X σ.mu h' e cls (rawInt X.L) → Q () { s with heap := h' }) {A : Around} (hA : A.frames = some (X.fenv :: X.outer)) : wpAny (model X.prog X.w) A (noteFrame (.ref e) X.env) Q E' s := by
  obtain ⟨be, pe, oe, vs, a0, g, c, d, ⟨v0, c0⟩, hx⟩ := x
  rw [he]
  have fin : ∀ (s₁ : Shared), Post X σ s σ s₁ → s₁.heap.get? e = some oe → ∀ h' T ts, (∀ b o, b ≠ e → b ∉ X.frs → s₁.heap.get? b = some o → h'.get? b = some o) → s₁.heap.UpToSlots h' → s₁.heap.get? T = none → T ≠ e →
      h'.get? e = some (oe.mapFields (·.setIfInBounds 1 (.ref T))) → (∃ oT, h'.get? T = some oT ∧ oT.data = .fields ts) → ts[3]? = some (rawInt X.L) → 1 < vs.size → Post X σ s σ { s₁ with heap := h' } ∧ ExcTb X σ.mu h' e cls (rawInt X.L) := by
    intro s₁ P₁ g₁ h' T ts k1 k2 gT hTe ge ⟨oT, gT', dT⟩ t3 hsz
    refine ⟨P₁.trans (post_slots (bad := [e]) P₁.st (fun b o gb n1 n2 => k1 b o (fun q => n2 (by simp [q])) n1 gb) k2 fun b hb => by rw [List.mem_singleton.mp hb]; exact ⟨be, pe, oe, vs, g₁, d⟩), ?_⟩
    refine ⟨be, pe, _, _, a0, T, oT, ts, ge, (Obj.cls_mapFields _ _).trans c, Obj.data_mapFields d _, ⟨by rw [Array.getElem?_setIfInBounds_ne (by decide)]; exact v0, fun q => by rw [Array.getElem?_setIfInBounds_ne (by decide)]; exact c0 q⟩, by simp [hsz], ?_, fun hp => ?_, hTe, gT', dT, t3⟩
    · refine ⟨?_, fun hm => ?_⟩
      · cases q : X.base.get? T with
        | none => rfl
        | some o => have := P₁.st.base T o q; rw [gT] at this; cases this
      · cases q : σ.hp T with
        | none => exact hm q
        | some o =>
          obtain ⟨ob, g⟩ := (P₁.st.own T o q).1.there
          rw [gT] at g; cases g
    · obtain ⟨_, o, ws, gp, _⟩ := P₁.st.prot T hp
      rw [gT] at gp; cases gp
  rcases hx with v1 | ⟨T, oT, ts, v1, bT, pT, ne, gT, dT, v3 | v3⟩
  · have hsz := (Array.getElem?_eq_some_iff.mp v1).1
    unfold noteFrame
    simp only [ok.frame]
    refine wpAny_bind (wpAny_field g d v1 ?_)
    rw [if_neg (by decide)]
    refine entry_new ok st hA g d hsz fun h' T ts k1 k2 gT hTe ge gT' t3 => ?_
    obtain ⟨P, x⟩ := fin s (Post.refl st) g h' T ts k1 k2 gT hTe ge gT' t3 hsz
    exact h h' P x
  · have hsz := (Array.getElem?_eq_some_iff.mp v1).1
    unfold noteFrame
    simp only [ok.frame]
    refine wpAny_bind (wpAny_field g d v1 ?_)
    rw [if_pos (show (Value.ref T != Value.none) = true from by simp)]
    refine wpAny_bind (wpAny_field gT dT v3 ?_)
    rw [if_neg (show ¬ ((Value.none == rawInt X.L) = true) from by simp [rawInt])]
    have other : ∀ b, b ≠ T → (s.heap.update T (Obj.mapFields (·.setIfInBounds 3 Value.none))).get? b = s.heap.get? b := fun b hb => Heap.get?_update_other _ _ (Ne.symm hb)
    refine wpAny_bind (wpAny_setField gT dT (Array.getElem?_eq_some_iff.mp v3).1 ?_)
    have P₁ : Post X σ s σ { s with heap := s.heap.update T (Obj.mapFields (·.setIfInBounds 3 Value.none)) } :=
      post_slots (tk := s.toks) (bad := [T]) st (fun b o g' _ nb => (other b fun q => nb (by simp [q])).trans g') (fun b o g' nf => ⟨o.slots, (other b fun q => by rw [q, gT] at g'; cases g'; exact nf _ dT).trans g'⟩) fun b hb => by
        rw [List.mem_singleton.mp hb]; exact ⟨bT, pT, oT, ts, gT, dT⟩
    have g₁ := (other e (Ne.symm ne)).trans g
    refine entry_new ok P₁.st hA g₁ d hsz fun h' T' ts' k1 k2 gT₂ hTe ge gT' t3 => ?_
    obtain ⟨P, x⟩ := fin _ P₁ g₁ h' T' ts' k1 k2 gT₂ hTe ge gT' t3 hsz
    exact h h' P x
  · refine wpAny_noteFrame_againW (base := X.base) (cls := cls) (a0 := a0) ok.frame ⟨oe, vs, T, oT, ts, g, ⟨c, v0⟩, d, v1, bT.1, ne, gT, dT, v3⟩ ?_
    exact h s.heap ⟨⟨s.heap, s.toks, rfl⟩, Ext.refl _ _ _ _ st.protOff, st⟩ ⟨be, pe, oe, vs, a0, T, oT, ts, g, c, d, ⟨v0, c0⟩, v1, bT, pT, ne, gT, dT, v3⟩
theorem leave_any {s : Shared} {e : Addr} {cls : Value} {Q : Unit → Shared → Prop} {E' : Value → Shared → Prop} (ok : Ok X n) (he : X.env = X.fenv) (st : St X σ s.heap) (x : ExcAt X σ.mu s.heap e cls)
    (h : ∀ h', Post X σ s σ { s with heap := h' } → ExcTb X σ.mu h' e cls .none → Q () { s with heap := h' }) : wpAny (model X.prog X.w) X.A (leaving X.env (.ref e)) Q E' s := by
  unfold leaving
  refine wpAny_bind (note_any ok he st x (fun h₁ P₁ x₁ => ?_) ok.frames)
  exact set_flight (fr := none) P₁.st x₁ fun h₂ P₂ x₂ => h h₂ (P₁.trans P₂) x₂
end
end Mine
namespace Mine
open PySem PySem.W PySem.Calls PySem.Spec PyProof.Rows
section
variable {X : Cx} {n : Nat} {σ : S} {E : Value → S → Prop}
noncomputable def Cx.into (X : Cx) (A' : Around) (fd : FuncData) (f L : Addr) : Cx :=
  { X with A := A'.deeper (callEnv fd L f), env := callEnv fd L f, fenv := callEnv fd L f, L := L, outer := X.fenv :: X.outer }
structure FnIs (K : Frag) (f : Addr) (fd : FuncData) (body : List Stmt) : Prop where
  at_ : ∃ oc od osl, K.lookup f = some ⟨oc, od, .func fd, osl⟩
  code : codeIn K fd.code fd.qualname = true
  body : fd.body = .stmts body
  glob : fd.globals = mainGlobals
  bult : fd.builtins = builtinsNs
  kind : fd.scope.kind = .function
  co : fd.scope.isCoroutine = false
  gen : fd.scope.isGenerator = false
  cell : ∀ x ∈ fd.scope.names, x.2 ≠ .cell
structure Under (X : Cx) (A' : Around) : Prop where
  frames : A'.frames = X.A.frames
  depth : A'.depth ≤ X.A.depth + 1
  units : A'.units ≤ X.A.units + 10
  handled : A'.handled = X.A.handled
theorem Under.self : Under X X.A := ⟨rfl, Nat.le_succ _, Nat.le_add_right _ _, rfl⟩
theorem ok_into {A' : Around} {fd : FuncData} {f L : Addr} {body : List Stmt} (ok : Ok X (n + 1)) (hf : FnIs X.K f fd body) (hA : Under X A') (hL : X.base.objs.size ≤ L) (hp : L ∉ X.prot) : Ok (X.into A' fd f L) n where
  inK := ok.inK
  top := ok.top
  frames := Around.frames_deeper (hA.frames.trans ok.frames)
  frame := rfl
  eframe := rfl
  kind := hf.kind
  genv := hf.glob
  benv := hf.bult
  above := hL
  locProt := hp
  handled := hA.handled.trans ok.handled
  ctxIn := ok.ctxIn
  depth := by
    have := ok.depth
    have := hA.depth
    show A'.depth + 1 + 2 * n + 8 < _
    omega
  units := by
    have := ok.units
    have := hA.units
    show A'.units + 3 + 20 * n + 300 < _
    omega
theorem enter {A' : Around} {fd : FuncData} {f : Addr} {body : List Stmt} {s : Shared} {h₀ : Heap} {m : Str → Option Value} {loc0 : List (Str × V)} (hf : FnIs X.K f fd body) (st : St X σ s.heap) (hn : h₀.Ns s.heap.objs.size m) (k : ∀ b o, s.heap.get? b = some o → h₀.get? b = some o)
    (hm : ∀ x d, lk loc0 x = some d → ∃ v, m x = some v ∧ VM σ.mu s.heap v d) : St (X.into A' fd f s.heap.objs.size) ⟨loc0, σ.hp⟩ h₀ := by
  have x : Ext X.env.locals X.prot σ.mu s.heap σ.mu h₀ := Ext.keeps st.protOff k
  have bn : X.base.get? s.heap.objs.size = none := by
    cases q : X.base.get? s.heap.objs.size with
    | none => rfl
    | some o => exact absurd (Heap.lt_size (st.base _ o q)) (Nat.lt_irrefl _)
  refine ⟨fun b o e => k b o (st.base b o e), ⟨m, hn, fun y d e => let ⟨v, q, r⟩ := hm y d e; ⟨v, q, r.mono x⟩⟩, fun a o e => ?_, new_off (σ := σ) st, fun a ha => ?_, fun e he => ?_⟩
  · obtain ⟨y, z⟩ := st.own a o e
    obtain ⟨ob, g⟩ := y.there
    exact ⟨y.mono x ((k a ob g).trans g.symm), z⟩
  · obtain ⟨z, o, vs, g, d⟩ := st.prot a ha
    exact ⟨z, o, vs, k a o g, d⟩
  · rcases List.mem_cons.mp he with rfl | he
    · obtain ⟨o, es, ep, g, d, _⟩ := hn
      exact ⟨by show fd.scope.kind ≠ .module; rw [hf.kind]; decide, _, o, es, ep, rfl, bn, new_off (σ := σ) st, g, d⟩
    · obtain ⟨z, L, o, es, ep, hfr, hb, hmu, g, d⟩ := st.frs e he
      exact ⟨z, L, o, es, ep, hfr, hb, hmu, k L o g, d⟩
theorem post_back {A' : Around} {fd : FuncData} {f : Addr} {s s' : Shared} {h₀ : Heap} {loc0 : List (Str × V)} {tk : Nat} {σ' : S} (st : St X σ s.heap) (k : ∀ b o, s.heap.get? b = some o → h₀.get? b = some o)
    (P : Post (X.into A' fd f s.heap.objs.size) ⟨loc0, σ.hp⟩ { s with heap := h₀, toks := tk } σ' s') : Post X σ s ⟨σ.loc, σ'.hp⟩ s' := by
  obtain ⟨h', tk', e⟩ := P.upd
  have lt : ∀ a o, s.heap.get? a = some o → a ≠ s.heap.objs.size := fun a o g => Nat.ne_of_lt (Heap.lt_size g)
  have x : Ext X.env.locals X.prot σ.mu s.heap σ'.mu s'.heap := ⟨fun a o g nm q => P.ext.seq a o (k a o g) nm q, fun a o g nm l q => P.ext.obj a o (k a o g) nm (lt a o g) q, fun a ha o g => P.ext.watch a ha o (k a o g)⟩
  refine ⟨⟨h', tk', e⟩, x, ⟨P.st.base, ?_, P.st.own, ?_, P.st.prot, fun e he => P.st.frs e (.tail _ he)⟩⟩
  · obtain ⟨m, hn, hm⟩ := st.names
    obtain ⟨o, es, ep, g, d, r⟩ := hn
    obtain ⟨_, sl, g'⟩ := P.ext.obj _ o (k _ o g) st.locOff (lt _ o g) fun vs q => by rw [d] at q; cases q
    exact ⟨m, ⟨_, es, ep, g', d, r⟩, fun y d e => let ⟨v, q, r⟩ := hm y d e; ⟨v, q, r.mono x⟩⟩
  · obtain ⟨m, ⟨o, es, ep, g, d, r⟩, hm⟩ := st.names
    exact (P.ext.obj _ o (k _ o g) st.locOff (lt _ o g) fun vs q => by rw [d] at q; cases q).1
noncomputable def retV : FV → V
  | .ret d => d
  | _ => .none
theorem code_fn {fd : FuncData} {f : Addr} {body : List Stmt} {A' : Around} {R : Result → Shared → Prop} {s : Shared} {args : Args} {binds : List (Str × Value)} {loc0 : List (Str × V)} {Qb : FV → S → Prop} {Eb : Value → S → Prop}
    (ok : Ok X (n + 1)) (hf : FnIs X.K f fd body) (hA : Under X A') (st : St X σ s.heap) (hb : BindsTo s fd args binds) (hl : ∀ y ∈ binds, fd.scope.names.lookup y.1 = some .local)
    (hm : ∀ x d, lk loc0 x = some d → ∃ v, binds.reverse.lookup x = some v ∧ VM σ.mu s.heap v d)
    (h : ∀ L, Ok (X.into A' fd f L) n → WXs (X.into A' fd f L) body ⟨loc0, σ.hp⟩ Qb Eb)
    (ret : ∀ v s' fl σ', Post X σ s ⟨σ.loc, σ'.hp⟩ s' → VM σ'.mu s'.heap v (retV fl) → Qb fl σ' → R (.ok (.ret v)) s')
    (exc : ∀ e s' cls σ', Post X σ s ⟨σ.loc, σ'.hp⟩ s' → ExcAt X σ'.mu s'.heap e cls → Eb cls σ' → R (.error (.ref e)) s') : codeAny (model X.prog X.w) A' (.call (.ref f) args) R s := by
  obtain ⟨oc, od, osl, hat⟩ := hf.at_
  have inK := ok.inK.keeps st.base
  have hroom : A'.depth < recursionLimit := by have := ok.depth; have := hA.depth; omega
  refine codeAny_call_def (fd := fd) (body := body) (binds := binds) hroom (inK _ _ hat) rfl (ok.top.nolimit.keeps st.base) (codeRec_of inK hf.code) hf.body hb hf.cell hl (fun h₀ hn hk => ?_) hf.co hf.gen hf.kind
  have bL : X.base.objs.size ≤ s.heap.objs.size := by
    obtain ⟨m, hn, _⟩ := st.names
    exact Nat.le_trans ok.above (Nat.le_of_lt hn.lt)
  have pL : s.heap.objs.size ∉ X.prot := fun hp => by
    obtain ⟨_, o, vs, g, _⟩ := st.prot _ hp
    exact absurd (Heap.lt_size g) (Nat.lt_irrefl _)
  have ok' := ok_into (L := s.heap.objs.size) ok hf hA bL pL
  have st' := enter (A' := A') hf st hn hk hm
  refine wpAny_mono (h s.heap.objs.size ok' _ st') (fun fl s' q => ?_) fun e s' q => ?_
  · obtain ⟨g, σ', P, r, q⟩ := q
    have P' := post_back st hk P
    refine ret _ s' g σ' P' ?_ q
    cases fl <;> cases g <;> first | exact r.elim | exact VM.none | exact r
  · obtain ⟨ea, cls, σ', P, rfl, x, q⟩ := q
    refine leave_any ok' rfl P.st x fun h' P₂ x₂ => ?_
    have P' := post_back st hk (P.trans P₂)
    refine exc ea _ cls σ' P' ?_ q
    obtain ⟨a, b, oe, vs, a0, T, oT, ts, g, c, d, v0, v1, bT, pT, ne, gT, dT, v3⟩ := x₂
    exact ⟨a, b, oe, vs, a0, g, c, d, v0, .inr ⟨T, oT, ts, v1, bT, pT, ne, gT, dT, .inl v3⟩⟩
noncomputable def Call (X : Cx) (f : Value) (ds : List V) (σ : S) (Q : V → S → Prop) (E : Value → S → Prop) : Prop :=
  ∀ vs s, St X σ s.heap → VMs σ.mu s.heap vs ds → wpAny (model X.prog X.w) X.A (call f vs) (Qw X σ s VM Q) (Ew X σ s E) s
theorem Call.fn {fd : FuncData} {f : Addr} {body : List Stmt} {ds : List V} {loc0 : List (Str × V)} {Q : V → S → Prop} (ok : Ok X (n + 1)) (hf : FnIs X.K f fd body)
    (hb : ∀ vs s, St X σ s.heap → VMs σ.mu s.heap vs ds → ∃ binds, BindsTo s fd ⟨vs, []⟩ binds ∧ (∀ y ∈ binds, fd.scope.names.lookup y.1 = some .local) ∧ (∀ x d, lk loc0 x = some d → ∃ v, binds.reverse.lookup x = some v ∧ VM σ.mu s.heap v d))
    (h : ∀ L, Ok (X.into X.A fd f L) n → WXs (X.into X.A fd f L) body ⟨loc0, σ.hp⟩ (fun fl σ' => Q (retV fl) ⟨σ.loc, σ'.hp⟩) (fun c σ' => E c ⟨σ.loc, σ'.hp⟩)) : Call X (.ref f) ds σ Q E := by
  intro vs s st vm
  obtain ⟨binds, h1, h2, h3⟩ := hb vs s st vm
  refine wpAny_call (code_fn ok hf Under.self st h1 h2 h3 h (fun v s' fl σ' P r q => ?_) fun e s' cls σ' P x q => ?_)
  · exact ⟨retV fl, _, P, r, q⟩
  · exact ⟨e, cls, _, P, rfl, x, q⟩
theorem binds_place {fd : FuncData} {names : List Str} {ds : List V} {mu : Addr → Prop} {s : Shared} (hb : ∀ vs : List Value, vs.length = names.length → BindsTo s fd ⟨vs, []⟩ (names.zip vs)) (hl : (names.all fun x => fd.scope.names.lookup x == some .local) = true) (hn : names.Nodup) (hlen : ds.length = names.length)
    {vs : List Value} (vm : VMs mu s.heap vs ds) : ∃ binds, BindsTo s fd ⟨vs, []⟩ binds ∧ (∀ y ∈ binds, fd.scope.names.lookup y.1 = some .local) ∧ (∀ x d, lk (names.zip ds) x = some d → ∃ v, binds.reverse.lookup x = some v ∧ VM mu s.heap v d) := by
  refine ⟨names.zip vs, hb vs (vm.length.trans hlen), fun y hy => ?_, fun x d e => ?_⟩
  · have := List.all_eq_true.mp hl y.1 (List.of_mem_zip hy).1
    simpa using this
  · have rev : ∀ (l : List (Str × Value)), (l.map (·.1)).Nodup → ∀ x v, (x, v) ∈ l → l.reverse.lookup x = some v := by
      intro l hnd x v hm
      have hnd' : ((l.reverse).map (·.1)).Nodup := by rw [List.map_reverse]; exact (List.reverse_perm _).nodup_iff.mpr hnd
      have hm' : (x, v) ∈ l.reverse := List.mem_reverse.mpr hm
      generalize l.reverse = r at hnd' hm'
      induction r with
      | nil => cases hm'
      | cons p r ih =>
        rw [List.map_cons, List.nodup_cons] at hnd'
        rcases List.mem_cons.mp hm' with rfl | hm'
        · simp [List.lookup]
        · have : x ≠ p.1 := fun q => hnd'.1 (q ▸ List.mem_map.mpr ⟨(x, v), hm', rfl⟩)
          rw [List.lookup_cons, show (x == p.1) = false from by simpa using this]
          exact ih hnd'.2 hm'
    have key : ∀ (ns : List Str) (vs : List Value) (ds : List V), VMs mu s.heap vs ds → ns.length = ds.length → lk (ns.zip ds) x = some d → ∃ v, (x, v) ∈ ns.zip vs ∧ VM mu s.heap v d := by
      intro ns
      induction ns with
      | nil => intro vs ds _ _ e; simp [lk] at e
      | cons y ns ih =>
        intro vs ds vm hl e
        cases vm with
        | nil => simp at hl
        | @cons v vs d' ds a r =>
          by_cases q : x = y
          · subst q
            simp [lk, List.lookup] at e
            subst e
            exact ⟨v, by simp, a⟩
          · have e' : lk (ns.zip ds) x = some d := by
              simp only [lk, List.zip_cons_cons, List.lookup_cons, show (x == y) = false from by simpa using q] at e
              exact e
            obtain ⟨w, hm, wm⟩ := ih vs ds r (by simpa using hl) e'
            exact ⟨w, by simp [hm], wm⟩
    obtain ⟨v, hm, wm⟩ := key names vs ds vm hlen.symm e
    refine ⟨v, rev _ ?_ x v hm, wm⟩
    rw [List.map_fst_zip (by rw [vm.length, hlen]; exact Nat.le_refl _)]
    exact hn
noncomputable def Keeps (X : Cx) (f : Value) : Prop := ∀ h, X.K.In h → ∃ k, (k = Keeper.frame ∨ k = Keeper.machine ∨ k = Keeper.boundFrame) ∧ Looks (model X.prog X.w) h (keeperOf f) k
theorem keeps_of {f : Value} (e : keepIn X.K f = true) : Keeps X f := fun h x => keeps_K e h x
theorem keeps_builtin {id : String} : Keeps X (.builtin id) := fun _ _ => ⟨.machine, .inr (.inl rfl), Looks.of_pure rfl⟩
theorem keeps_type {id : String} : Keeps X (.type id) := fun _ _ => ⟨.machine, .inr (.inl rfl), Looks.of_pure rfl⟩
theorem call_with {pos : Pos} {f : Value} {first : List Value} {fd : List V} {trees : List (Bool × Sem Value)} {Q : V → S → Prop} (ok : Ok X n) (hk : Keeps X f) (hplain : trees.any (·.1) = false)
    (h : W X (spliced trees) VMs σ (fun ds σ₂ => Call X f (fd ++ ds) σ₂ Q E) E) {σ₀ : S} {s₀ s : Shared} (P : Post X σ₀ s₀ σ s) (fm : VMs σ.mu s.heap first fd) :
    wpAny (model X.prog X.w) X.A (callWith pos f first trees []) (Qw X σ₀ s₀ VM Q) (Ew X σ₀ s₀ E) s := by
  have fin : ∀ {A : Around}, A = X.A → wpAny (model X.prog X.w) A (evalArgs f true trees []) (fun a s₁ => X.K.In s₁.heap ∧ wpAny (model X.prog X.w) A (call f (first ++ a.pos) a.kw) (Qw X σ₀ s₀ VM Q) (Ew X σ₀ s₀ E) s₁) (Ew X σ₀ s₀ E) s := by
    rintro A rfl
    have main : wpAny (model X.prog X.w) X.A (spliced trees) (fun vs s₁ => X.K.In s₁.heap ∧ wpAny (model X.prog X.w) X.A (call f (first ++ vs) []) (Qw X σ₀ s₀ VM Q) (Ew X σ₀ s₀ E) s₁) (Ew X σ₀ s₀ E) s :=
      h.run P fun vs s₁ ds σ₁ p₁ P₁ vm c => ⟨P₁.st.inK ok, wpAny_mono (c _ s₁ P₁.st ((fm.mono p₁.ext).append vm)) (fun _ _ q => q.after P₁) fun _ _ q => q.after P₁⟩
    cases trees with
    | nil =>
      unfold evalArgs
      show wpAny _ _ (spliced [] >>= _) _ _ s
      refine wpAny_bind (wpAny_mono main (fun vs s' h' => ?_) fun _ _ x => x)
      refine wpAny_holding ?_
      exact wpAny_bind (wpAny_pure (wpAny_bind (wpAny_pure (wpAny_pure h'))))
    | cons t r =>
      obtain ⟨b, t⟩ := t
      cases b
      · exact evalArgs_plain main
      · simp at hplain
  exact callWith_of (P := X.K.In) (by rw [hplain]; rfl) hk (fin rfl)
inductive CallQ (X : Cx) (f : V) (P : Value → Prop) : Prop
  | mk (fv : Value) (e : f = .lit fv) (k : Keeps X fv) (h : P fv)
theorem W_Call {x : Str} {np pos : Pos} {args : List Expr} {Q : V → S → Prop} (ok : Ok X n)
    (h : WE X (.Name x np) σ (fun f σ₁ => CallQ X f fun fv => W X (spliced (backTo pos (starEach args X.env))) VMs σ₁ (fun ds σ₂ => Call X fv ds σ₂ Q E) E) E)
    (hplain : ∀ env, (backTo pos (starEach args env)).any (·.1) = false) : WE X (.Call (.Name x np) args [] pos) σ Q E := fun _ st =>
  wpAny_Call_NameR (h.run (Post.refl st) fun v s₁ f σ₁ _ P₁ vm h₁ => by
    obtain ⟨fv, rfl, hk, h₂⟩ := h₁
    cases vm.litI
    exact call_with (fd := []) ok hk (hplain _) h₂ P₁ .nil)
noncomputable def GetM (X : Cx) (a : V) (name : Str) (σ : S) (Q : Value → List V → S → Prop) (E : Value → S → Prop) : Prop :=
  ∀ v s pl, St X σ s.heap → VM σ.mu s.heap v a → wpAny (model X.prog X.w) X.A (getMethod v name pl) (fun r s' => ∃ ds σ', Post X σ s σ' s' ∧ VMs σ'.mu s'.heap r.2 ds ∧ Q r.1 ds σ') (Ew X σ s E) s
theorem W_Method {o : Expr} {name : Str} {apos pos : Pos} {args : List Expr} {Q : V → S → Prop} (ok : Ok X n)
    (h : WE X o σ (fun a σ₁ => GetM X a name σ₁ (fun f fd σ₂ => Keeps X f ∧ W X (spliced (backTo pos (starEach args X.env))) VMs σ₂ (fun ds σ₃ => Call X f (fd ++ ds) σ₃ Q E) E) E) E)
    (hbase : ∀ env, attributeBase o name env (eval o env) = eval o env)
    (hfew : ∀ env, ((backTo pos (starEach args env)).all (fun x => !x.1) && (backToKw pos (keywordEach [] env)).all (fun x => x.1.isSome)
      && decide (args.length + ([] : List Keyword).length + (if ([] : List Keyword).isEmpty then 0 else 1) < 30)) = true)
    (hline : (apos.endLine == pos.line) = true) (hplain : ∀ env, (backTo pos (starEach args env)).any (·.1) = false) : WE X (.Call (.Attribute o name apos) args [] pos) σ Q E := fun _ st => by
  rw [arm_eval_Call, hbase]
  refine wpAny_bind (h.run (Post.refl st) fun v s₁ a σ₁ _ P₁ vm h₁ => wpAny_bind (wpAny_standAt ?_))
  unfold methodCall calleeOf methodCallPos
  have e : methodCallForm (args.length + ([] : List Keyword).length) (backTo pos (starEach args X.env)) (backToKw pos (keywordEach [] X.env)) = true := hfew X.env
  rw [e]
  rw [if_pos rfl]
  dsimp only
  rw [hline]
  refine wpAny_bind (wpAny_holding (wpAny_mono (h₁ v s₁ _ P₁.st vm) (fun r s₂ q => ?_) fun _ _ q => q.after P₁))
  obtain ⟨ds, σ₂, P₂, rm, hk, h₃⟩ := q
  refine wpAny_bind (wpAny_pure ?_)
  exact call_with ok hk (hplain _) h₃ (P₁.trans P₂) rm
theorem getm_inst {a C dx f : Addr} {fs : List (Str × V)} {name : Str} {Q : Value → List V → S → Prop} (ok : Ok X n) (h1 : σ.hp a = some (.inst C dx)) (h2 : σ.hp dx = some (.dict fs)) (km : KMeth X.K C name f) (hd : lk fs name = none)
    (q : Q (.ref f) [.ref a] σ) : GetM X (.ref a) name σ Q E := by
  intro v s pl st vm
  obtain rfl := vm.refI
  obtain ⟨m, F, _⟩ := st.fr ok
  obtain ⟨es, k, I, en, _⟩ := inst_at st h1 h2
  exact method_inst F ok.inK I km.get km.cls km.fn (en.getL.2 hd) ⟨_, σ, Post.refl st, .cons (.ref a) .nil, q⟩
end
end Mine
namespace Mine
open PySem PySem.W PySem.Calls PySem.Spec PyProof.Rows
section
variable {X : Cx} {n : Nat} {σ : S} {E : Value → S → Prop}
noncomputable def Cx.mark (X : Cx) (e : Addr) (b : Bool) : Cx := { X with A := X.A.mark (some (.ref e)), prot := e :: X.prot, ctx := some (e, b) }
noncomputable def isB : Value → Bool
  | .type _ => true
  | _ => false
theorem st_mark {h : Heap} {e : Addr} {b : Bool} {o : Obj} {vs : Array Value} (st : St X σ h) (g : h.get? e = some o) (d : o.data = .fields vs) (hm : ¬ σ.mu e) (hb : b = true → vs[2]? = some .none) : St (X.mark e b) σ h := by
  refine ⟨st.base, st.names, st.own, st.locOff, fun a ha => ?_, st.frs⟩
  rcases List.mem_cons.mp ha with rfl | ha
  · exact ⟨hm, o, vs, g, d, fun q => hb (by cases q; rfl)⟩
  · obtain ⟨z, o', vs', g', d', c'⟩ := st.prot a ha
    refine ⟨z, o', vs', g', d', fun q => ?_⟩
    have q' : some (e, b) = some (a, true) := q
    cases q'
    rw [g] at g'
    cases g'
    rw [d] at d'
    cases d'
    exact hb rfl
theorem st_unmark {h h₀ : Heap} {e : Addr} {b : Bool} {σ₀ : S} (st : St (X.mark e b) σ h) (st₀ : St X σ₀ h₀) (w : ∀ a ∈ X.prot, ∀ o, h₀.get? a = some o → h.get? a = some o) : St X σ h :=
  ⟨st.base, st.names, st.own, st.locOff, fun a ha => by
    obtain ⟨z, _⟩ := st.prot a (.tail _ ha)
    obtain ⟨_, o, vs, g, r⟩ := st₀.prot a ha
    exact ⟨z, o, vs, w a ha o g, r⟩, st.frs⟩
theorem post_unmark {s s' : Shared} {σ' : S} {e : Addr} {b : Bool} (st : St X σ s.heap) (P : Post (X.mark e b) σ s σ' s') : Post X σ s σ' s' :=
  ⟨P.upd, ⟨P.ext.seq, P.ext.obj, fun a ha => P.ext.watch a (.tail _ ha)⟩, st_unmark P.st st fun a ha o g => (P.ext.watch a (.tail _ ha) o g).1⟩
theorem exc_unmark {mu : Addr → Prop} {h : Heap} {e e' : Addr} {b : Bool} {cls : Value} (x : ExcAt (X.mark e b) mu h e' cls) : ExcAt X mu h e' cls := by
  obtain ⟨a, pe, oe, vs, a0, g, c, d, v0, hx⟩ := x
  refine ⟨a, fun q => pe (.tail _ q), oe, vs, a0, g, c, d, v0, ?_⟩
  rcases hx with v1 | ⟨T, oT, ts, v1, bT, pT, r⟩
  · exact .inl v1
  · exact .inr ⟨T, oT, ts, v1, bT, (fun q => pT (.tail _ q)), r⟩
theorem ok_mark {e : Addr} {b : Bool} (ok : Ok X n) (he : e ≠ X.env.locals) : Ok (X.mark e b) n :=
  ⟨ok.inK, ok.top, ok.frames, ok.frame, ok.eframe, ok.kind, ok.genv, ok.benv, ok.above, (fun q => (List.mem_cons.mp q).elim (fun z => he z.symm) ok.locProt), rfl, (fun p q => by cases q; exact .head _), ok.depth, ok.units⟩
theorem came_back {s : Shared} {e : Addr} {cls : Value} (ok : Ok X n) (st : St X σ s.heap) (x : ExcTb X σ.mu s.heap e cls (rawInt X.L)) {σ₀ : S} {s₀ : Shared} (P : Post X σ₀ s₀ σ s) (q : E cls σ) :
    cameBackBy (model X.prog X.w) X.A X.env (Ew X σ₀ s₀ E) (.ref e) s := by
  have x' := x
  obtain ⟨be, pe, oe, vs, a0, T, oT, ts, g, c, d, v0, v1, bT, pT, ne, gT, dT, v3⟩ := x
  unfold cameBackBy
  refine wpAny_bind (wpAny_field g d v1 ?_)
  rw [if_neg (by simp)]
  rw [ok.eframe]
  exact set_flight (fr := some X.L) st x' fun h' P' x'' => ⟨e, cls, σ, P.trans P', rfl, x''.own, q⟩
theorem noted_back {s : Shared} {e : Addr} {cls : Value} (ok : Ok X n) (he : X.env = X.fenv) (st : St X σ s.heap) (x : ExcAt X σ.mu s.heap e cls) {σ₀ : S} {s₀ : Shared} (P : Post X σ₀ s₀ σ s) (q : E cls σ) {A : Around} (hA : A.frames = some (X.fenv :: X.outer)) :
    notedBy (model X.prog X.w) A X.env (cameBackBy (model X.prog X.w) X.A X.env (Ew X σ₀ s₀ E)) (.ref e) s := by
  unfold notedBy
  exact note_any ok he st x (fun h' P' x' => came_back ok P'.st x' (P.trans P') q) hA
noncomputable def Match (X : Cx) (cls c : Value) (b : Bool) : Prop := ∀ (A : Around) (s : Shared) (e : Addr) (oe : Obj) (Q : Bool → Shared → Prop) (E' : Value → Shared → Prop), X.K.In s.heap → s.heap.get? e = some oe → oe.cls = cls → Q b s → wpAny (model X.prog X.w) A (excMatches (.ref e) c) Q E' s
theorem match_builtin {T U : String} {b : Bool} (hexc : isSubtype (.type U) (.type "BaseException") = pure true) (hnt : isSubtype (.type ((Manifest.find? U).elim "type" fun x => x.metatype)) (.type "tuple") = pure false)
    (hsub : isSubtype (.type T) (.type U) = pure b) : Match X (.type T) (.type U) b := fun A s e oe Q E' _ g c q => wpAny_excMatches_type ⟨oe, g, c⟩ hexc hnt hsub q
theorem match_own {C D : Addr} {b : Bool} {oc : Value} {od : Option Addr} {cd : ClassData} {sl : Array (Option Value)} (ho : X.K.lookup C = some ⟨oc, od, .cls cd, sl⟩) (h1 : instIn X.K (.ref C) (.type "tuple") = some false) (h2 : subIn X.K (.ref C) (.type "BaseException") = some true) (h3 : subIn X.K (.ref D) (.ref C) = some b) :
    Match X (.ref D) (.ref C) b := fun A s e oe Q E' inK g c q => by
  obtain ⟨h, gn, dr, tk, os⟩ := s
  dsimp only at inK g
  have L1 := looks_instIn (M := model X.prog X.w) inK h1
  have L2 := looks_subIn (M := model X.prog X.w) inK h2
  have L3 := looks_subIn (M := model X.prog X.w) inK h3
  have L4 : Looks (model X.prog X.w) h (isType (.ref C)) true := (Looks.ld (inK _ _ ho)).andThen .now
  have L5 : Looks (model X.prog X.w) h (typeOf (.ref e)) (.ref D) := c ▸ (Looks.ld g).andThen .now
  unfold excMatches isExcClass
  cases b <;> (repeat (first | lk | simp only [Bool.not_true, Bool.false_eq_true, if_false, if_true])) <;> exact q
theorem WX_Try {body hbody : List Stmt} {b₀ : Stmt} {t : Expr} {hp pos : Pos} {c : Value} {Q : FV → S → Prop} (ok : Ok X n) (he : X.env = X.fenv)
    (ht : ∀ (A : Around) (σ' : S) (s : Shared) (Q' : Value → Shared → Prop) (E' : Value → Shared → Prop), St X σ' s.heap → Q' c s → wpAny (model X.prog X.w) A (eval t X.env) Q' E' s)
    (h : WXs X body σ Q (fun cls σ' => ∃ b, Match X cls c b ∧ if b then ∀ e, Ok (X.mark e (isB cls)) n → WXs (X.mark e (isB cls)) (b₀ :: hbody) σ' Q E else E cls σ')) :
    WX X (.Try body [.ExceptHandler (some t) none (b₀ :: hbody) hp] [] [] pos) σ Q E := fun s st => by
  refine wpAny_Try_except (wpAny_mono (h s st) (fun f s₁ q => ?_) fun e s₁ q => ?_)
  · obtain ⟨g, σ₁, P₁, r, q⟩ := q
    cases f <;> cases g <;> first | exact r.elim | exact wpAny_execs_nil (⟨FV.next, σ₁, P₁, trivial, q⟩ : Qw X σ s FM Q Flow.next s₁) | exact ⟨_, _, P₁, r, q⟩
  · obtain ⟨ea, cls, σ₁, P₁, rfl, x, b, hm, q⟩ := q
    refine note_any ok he P₁.st x (fun h₂ P₂ x₂ => ?_) ok.frames
    refine set_flight (fr := none) P₂.st x₂ fun h₃ P₃ x₃ => ?_
    have P := (P₁.trans P₂).trans P₃
    have x₃' := x₃
    obtain ⟨be, pe, oe, vs, a0, T, oT, ts, g, cc, d, v0, v1, bT, pT, ne, gT, dT, v3⟩ := x₃
    refine wpAny_handleBy_cons (codeAny_handlers_test (ht _ σ₁ _ _ _ P₃.st ?_)) (by intro q; cases q)
    refine hm _ _ ea oe _ _ (P₃.st.inK ok) g cc ?_
    cases b
    · simp only [Bool.false_eq_true, if_false] at q ⊢
      refine wpAny_handleBy_nil ?_
      unfold PySem.passOn
      refine wpAny_bind (wpAny_field g d v1 ?_)
      rw [if_neg (by simp)]
      rw [ok.eframe]
      refine wpAny_bind (set_flight (fr := some X.L) P₃.st x₃' fun h₄ P₄ x₄ => wpAny_throw ?_)
      exact ⟨ea, cls, σ₁, P.trans P₄, rfl, x₄.own, q⟩
    · simp only [if_true] at q ⊢
      refine codeAny_handlers_suite ?_
      refine set_flight (fr := none) P₃.st x₃' fun h₄ P₄ x₄ => ?_
      have PP := P.trans P₄
      obtain ⟨bm', _, oe', vs', _, T', _, _, g', _, d', ⟨_, c0⟩, _⟩ := x₄
      have eL : ea ≠ X.env.locals := fun z => by
        obtain ⟨m, ⟨oL, es, ep, gL, dL, _⟩, _⟩ := P₄.st.names
        rw [← z] at gL
        have : some oe' = some oL := g'.symm.trans gL
        cases this
        rw [d'] at dL; cases dL
      refine wpAny_mono (q ea (ok_mark ok eL) _ (st_mark P₄.st g' d' bm'.2 fun z => c0 (by cases cls <;> first | exact ⟨_, rfl⟩ | cases z))) (fun f s₅ q => ?_) fun e' s₅ q => ?_
      · obtain ⟨gv, σ₅, P₅, r, q⟩ := q
        exact ⟨gv, σ₅, PP.trans (post_unmark P₄.st P₅), r, q⟩
      · obtain ⟨e₅, cls₅, σ₅, P₅, rfl, x₅, q⟩ := q
        exact noted_back ok he (post_unmark P₄.st P₅).st (exc_unmark x₅) (PP.trans (post_unmark P₄.st P₅)) q ok.frames
end
end Mine
namespace Mine
open PySem PySem.W PySem.Calls PySem.Spec PyProof.Rows
section
variable {X : Cx} {n : Nat} {σ : S} {E : Value → S → Prop}
theorem post_drop {s s' : Shared} {σ' : S} {hp : Addr → Option HO} {loc : List (Str × V)} (P : Post X σ s σ' s') (h : ∀ a o, hp a = some o → σ'.hp a = some o) (hl : ∀ x d, lk loc x = some d → lk σ'.loc x = some d) : Post X σ s ⟨loc, hp⟩ s' := by
  have nm : ∀ a, ¬ σ'.mu a → ¬ S.mu ⟨loc, hp⟩ a := fun a n m => by
    cases q : hp a with
    | none => exact m q
    | some o => exact n (by show σ'.hp a ≠ none; rw [h a o q]; exact Option.some_ne_none _)
  have x : Ext X.env.locals X.prot σ'.mu s'.heap (S.mu ⟨loc, hp⟩) s'.heap := ⟨fun a o e n _ => ⟨e, nm a n⟩, fun a o e n _ _ => ⟨nm a n, o.slots, e⟩, fun a ha _ e => ⟨e, nm a (P.st.protOff a ha)⟩⟩
  refine ⟨P.upd, P.ext.trans x, ⟨P.st.base, ?_, fun a o e => ?_, nm _ P.st.locOff, fun a ha => ⟨nm a (P.st.protOff a ha), (P.st.prot a ha).2⟩, fun e he => ?_⟩⟩
  · obtain ⟨m, hn, hm⟩ := P.st.names
    exact ⟨m, hn, fun y d e => let ⟨v, q, r⟩ := hm y d (hl y d e); ⟨v, q, r.mono x⟩⟩
  · obtain ⟨y, z⟩ := P.st.own a o (h a o e)
    exact ⟨y.mono x rfl, z⟩
  · obtain ⟨z, L, o, es, ep, hf, hn, hm, g, d⟩ := P.st.frs e he
    exact ⟨z, L, o, es, ep, hf, hn, nm L hm, g, d⟩
theorem vm_drop {σ' : S} {hp : Addr → Option HO} {loc : List (Str × V)} {h : Heap} {v : Value} {d : V} (y : VM σ'.mu h v d) (k : ∀ a o, hp a = some o → σ'.hp a = some o) : VM (S.mu ⟨loc, hp⟩) h v d := by
  refine y.mono (L := 0) (prot := []) ⟨fun a o e n _ => ⟨e, fun m => ?_⟩, fun a o e n _ _ => ⟨fun m => ?_, o.slots, e⟩, fun a ha => nomatch ha⟩ <;>
  · cases q : hp a with
    | none => exact m q
    | some o => exact n (by show σ'.hp a ≠ none; rw [k a o q]; exact Option.some_ne_none _)
structure KExc (K : Frag) (C : Addr) : Prop where
  cls : ∃ oc od cd sl, K.lookup C = some ⟨oc, od, .cls cd, sl⟩
  base : subIn K (.ref C) (.type "BaseException") = some true
  type : typeIn K (.ref C) = some (.type "type")
theorem entry_unchain : entryFor table "proto.unchain" = some Builtin.«proto.unchain» := entryFor_of_tree (by kernel_rfl)
theorem upd_same {hp : Addr → Option HO} {a : Addr} {o : HO} (h : hp a = some o) : upd hp a o = hp := by
  funext b; unfold upd; split
  · rename_i e; rw [e, h]
  · rfl
theorem exc_field {s : Shared} {a C : Addr} {vs : Array Value} {a0 x : Value} {od : Option Addr} {i : Nat} {Q : Unit → Shared → Prop} {E' : Value → Shared → Prop} {A : Around} (ok : Ok X n) (st : St X σ s.heap) (h1 : σ.hp a = some (.exc C od))
    (g : s.heap.get? a = some { cls := .ref C, dict := od, data := .fields vs }) (v0 : vs[0]? = some a0) (v1 : vs[1]? = some .none) (v6 : vs.size = 6) (hi : i < 6) (hi1 : i ≠ 1)
    (h : ∀ h' b0, Post X σ s σ { s with heap := h' } → h'.get? a = some { cls := .ref C, dict := od, data := .fields (vs.setIfInBounds i x) } → (vs.setIfInBounds i x)[0]? = some b0 → (vs.setIfInBounds i x)[1]? = some .none → (vs.setIfInBounds i x).size = 6 → Q () { s with heap := h' }) :
    wpAny (model X.prog X.w) A (setField (.ref a) i x) Q E' s := by
  have other : ∀ b, b ≠ a → (s.heap.update a (Obj.mapFields (·.setIfInBounds i x))).get? b = s.heap.get? b := fun b hb => Heap.get?_update_other _ _ (Ne.symm hb)
  have g' : (s.heap.update a (Obj.mapFields (·.setIfInBounds i x))).get? a = some { cls := .ref C, dict := od, data := .fields (vs.setIfInBounds i x) } := Heap.get?_update_self _ g rfl
  have w1 : (vs.setIfInBounds i x)[1]? = some .none := by rw [Array.getElem?_setIfInBounds_ne hi1]; exact v1
  have w6 : (vs.setIfInBounds i x).size = 6 := by rw [Array.size_setIfInBounds]; exact v6
  obtain ⟨b0, w0⟩ : ∃ b0, (vs.setIfInBounds i x)[0]? = some b0 := ⟨_, Array.getElem?_eq_getElem (by rw [w6]; decide)⟩
  refine wpAny_setField g rfl (by rw [v6]; exact hi) (h _ b0 ?_ g' w0 w1 w6)
  obtain ⟨m, hn, hm⟩ := st.names
  have aL : X.env.locals ≠ a := fun e => st.locOff (by rw [e]; show σ.hp a ≠ none; rw [h1]; exact Option.some_ne_none _)
  have P := post_write (h' := s.heap.update a (Obj.mapFields (·.setIfInBounds i x))) (tk := s.toks) (a := a) (o := .exc C od) ok st (fun b o n1 _ q => (other b n1).trans q) ⟨m, hn.at' (fun o q => (other _ aL).trans q), hm⟩ (.inl (by rw [h1]; exact Option.some_ne_none _))
    fun _ _ _ => ⟨_, b0, g', w0, w1, w6⟩
  rwa [upd_same h1] at P
theorem raise_new {s : Shared} {a C : Addr} {vs : Array Value} {a0 : Value} {od : Option Addr} {σ₀ : S} {s₀ : Shared} {hp : Addr → Option HO} (ok : Ok X n) (P : Post X σ₀ s₀ σ s) (h1 : σ.hp a = some (.exc C od)) (g : s.heap.get? a = some { cls := .ref C, dict := od, data := .fields vs })
    (v0 : vs[0]? = some a0) (v1 : vs[1]? = some .none) (v6 : vs.size = 6) (hs : ∀ b o, hp b = some o → σ.hp b = some o) (ha : hp a = none) (hctx : ∀ p, X.ctx = some p → p.2 = true) (q : E (.ref C) ⟨σ.loc, hp⟩) :
    wpAny (model X.prog X.w) X.A (raiseNew (.ref a) : Sem Flow) (Qw X σ₀ s₀ FM (fun _ _ => False)) (Ew X σ₀ s₀ E) s := by
  have am : σ.mu a := by show σ.hp a ≠ none; rw [h1]; exact Option.some_ne_none _
  have prot : a ∉ X.prot := fun hp' => P.st.protOff a hp' am
  have bn := (P.st.own a _ h1).2
  have fin : ∀ s₁, Post X σ₀ s₀ σ s₁ → ∀ vs b0, s₁.heap.get? a = some { cls := .ref C, dict := od, data := .fields vs } → vs[0]? = some b0 → vs[1]? = some .none → Ew X σ₀ s₀ E (.ref a) s₁ := fun s₁ P vs b0 g v0 v1 =>
    ⟨a, .ref C, ⟨σ.loc, hp⟩, post_drop P hs fun _ _ e => e, rfl, ⟨⟨bn, fun m => m ha⟩, prot, _, vs, b0, g, rfl, rfl, ⟨v0, fun ⟨T, e⟩ => by cases e⟩, .inl v1⟩, q⟩
  unfold raiseNew
  refine wpAny_bind (wpAny_handled ?_)
  rw [ok.handled]
  cases hc : X.ctx with
  | none => exact wpAny_bind (wpAny_pure (wpAny_throw (fin s P vs a0 g v0 v1)))
  | some p =>
    obtain ⟨hA, b⟩ := p
    obtain rfl : b = true := hctx _ hc
    obtain ⟨nm, o, ws, gh, dh, ch⟩ := P.st.prot hA (ok.ctxIn _ hc)
    have hne : hA ≠ a := fun e => nm (e ▸ am)
    dsimp only [Option.map]
    rw [if_pos (show (Value.ref hA != Value.ref a) = true from by simpa using hne)]
    refine wpAny_bind (wpAny_holding (wpAny_runValue (codeAny_builtin entry_unchain ?_)))
    unfold Builtin.«proto.unchain»
    dsimp only
    refine wpAny_bind (wpAny_field gh dh (ch hc) ?_)
    rw [if_pos (by simp)]
    refine wpAny_pure ?_
    refine wpAny_bind ?_
    show wpAny _ _ (setField (.ref a) 2 (.ref hA)) _ _ _
    refine exc_field ok P.st h1 g v0 v1 v6 (by decide) (by decide) fun h' b0 P' g' w0 w1 _ => wpAny_throw (fin _ (P.trans P') _ b0 g' w0 w1)
inductive RaiseQ (X : Cx) (E : Value → S → Prop) (d : V) (σ₁ : S) : Prop
  | mk (a C : Addr) (od : Option Addr) (hp : Addr → Option HO) (e : d = .ref a) (h1 : σ₁.hp a = some (.exc C od)) (kx : KExc X.K C) (hs : ∀ b o, hp b = some o → σ₁.hp b = some o) (ha : hp a = none) (q : E (.ref C) ⟨σ₁.loc, hp⟩)
theorem WX_RaiseFrom {e : Expr} {k : Nat} {p' pos : Pos} {Q : FV → S → Prop} (ok : Ok X n) (hctx : ∀ p, X.ctx = some p → p.2 = true)
    (h : WE X e σ (RaiseQ X E) E) :
    WX X (.Raise (some e) (some (.Constant .none k p')) pos) σ Q E := fun s st => by
  rw [arm_exec_Raise]
  refine wpAny_bind (wpAny_standAt ?_)
  unfold raiseStmt
  show wpAny _ _ ((do let v ← eval e X.env; standAt pos; pure v) >>= _) _ _ _
  refine wpAny_bind (wpAny_bind (h.run (Post.refl st) fun v s₁ d σ₁ _ P₁ vm h₁ => wpAny_bind (wpAny_standAt (wpAny_pure ?_))))
  obtain ⟨a, C, od, hp, rfl, h1, kx, hs, ha, q⟩ := h₁
  obtain rfl := vm.refI
  obtain ⟨⟨vs, a0, g, v0, v1, v6⟩, _⟩ := P₁.st.own a _ h1
  have inK := P₁.st.inK ok
  obtain ⟨hh, gn, dr, tk, os⟩ := s₁
  dsimp only at inK g
  have L1 : Looks (model X.prog X.w) hh (typeOf (.ref a)) (.ref C) := (Looks.ld g).andThen .now
  have L2 := looks_subIn (M := model X.prog X.w) inK kx.base
  have L3 := looks_typeIn (M := model X.prog X.w) inK kx.type
  have L4 : Looks (model X.prog X.w) hh (isType (.ref a)) false := (Looks.ld g).andThen .now
  have L6 : Looks (model X.prog X.w) hh (isExcClass (.ref a)) false := L4.andThen .now
  have L7 : Looks (model X.prog X.w) hh (isInstance (.ref a) (.type "BaseException")) true := L1.andThen L2
  have L5 : Looks (model X.prog X.w) hh (excFromValue (.ref a) "exceptions must derive from BaseException") (.ref a) := L6.andThen (L7.andThen .now)
  have L8 : Looks (model X.prog X.w) hh (raisedInstance (.ref a)) (.ref a) := L1.andThen (L3.andThen .now)
  refine wpAny_bind (wpAny_holding ?_)
  show wpAny _ _ ((do let v ← eval (.Constant .none k p') X.env; standAt pos; pure v)) _ _ _
  refine wpAny_bind (wpAny_Constant_none (wpAny_bind (wpAny_standAt (wpAny_pure (wpAny_bind (wpAny_pure ?_))))))
  refine wpAny_bind (wpAny_holding (L5.here ?_))
  dsimp only
  rw [if_pos (by rfl)]
  refine wpAny_bind (wpAny_pure ?_)
  refine wpAny_bind (exc_field ok P₁.st h1 g v0 v1 v6 (by decide) (by decide) fun h₂ b0 P₂ g₂ w0 w1 w6 => ?_)
  refine wpAny_bind (exc_field ok P₂.st h1 g₂ w0 w1 w6 (by decide) (by decide) fun h₃ c0 P₃ g₃ x0 x1 x6 => ?_)
  have P := (P₁.trans P₂).trans P₃
  have M1 : Looks (model X.prog X.w) h₃ (typeOf (.ref a)) (.ref C) := (Looks.ld g₃).andThen .now
  have M3 := looks_typeIn (M := model X.prog X.w) (P.st.inK ok) kx.type
  have M4 : Looks (model X.prog X.w) h₃ (isType (.ref a)) false := (Looks.ld g₃).andThen .now
  have M8 : Looks (model X.prog X.w) h₃ (raisedInstance (.ref a)) (.ref a) := M1.andThen (M3.andThen .now)
  refine wpAny_bind (M4.here ?_)
  rw [if_neg (by decide)]
  refine wpAny_bind (M8.here ?_)
  unfold setFlight
  refine wpAny_bind (wpAny_bind (wpAny_field g₃ rfl x1 ?_))
  rw [if_neg (by simp)]
  refine wpAny_pure ?_
  exact wpAny_mono (raise_new ok P h1 g₃ x0 x1 x6 hs ha hctx q) (fun _ _ q => by obtain ⟨_, _, _, _, z⟩ := q; exact z.elim) fun _ _ e => e
end
end Mine
namespace Mine
open PySem PySem.W PySem.Calls PySem.Spec PyProof.Rows Builtin Builtin.ObjectAttr
section
variable {X : Cx} {n : Nat} {σ : S} {E : Value → S → Prop}
theorem exc_core {prog : Program} {w : World} {A : Around} {R : Result → Shared → Prop} {h : Heap} {g : Array GenState} {d : Drawn} {t : Nat} {os : OsState}
    {nm q : Str} {C N fI : Addr} {bs bm : List Value} {hdct : Bool} {sn : List Str} {sub : List Value} {ab : Bool} {col : Option Bool} {dd : Option Addr} {k0 k1 k2 k3 k5 : Option Value} {B newId initId : String} {rest : List Value}
    (F : ExcBaseFacts B newId initId bm) (hC : h.get? C = some (excClassObj nm q C N bs bm hdct sn sub ab col dd k0 k1 k2 k3 k5 newId))
    (hcall : Looks (model prog w) h (specialOf (.ref C) "__call__") (some (.builtin "type.__call__"))) (htyp : Looks (model prog w) h (isInstance (.ref C) (.type "type")) true)
    (hself : Looks (model prog w) h (isSubtype (.ref C) (.ref C)) true)
    (hi : Looks (model prog w) h (typeLookup (.ref C) "__init__") (some (.ref fI))) (hb : ∀ self, Looks (model prog w) h (bindSpecial (.ref fI) self) (.ref fI, [self])) (hrest : rest.length ≤ sizeLine)
    (hq : codeAny (model prog w) (A.under (.builtin "type.__call__" ⟨.ref C :: rest, []⟩)) (.call (.ref fI) ⟨.ref (h.objs.size + 1) :: rest, []⟩) (InitBack (h.objs.size + 1) R)
      ⟨(h.push { cls := .type "tuple", data := .seq rest.toArray }).push { cls := .ref C, data := .fields #[.ref h.objs.size, .none, .none, .none, .bool false, .none] }, g, d, t, os⟩) :
    codeAny (model prog w) A (.call (.ref C) ⟨rest, []⟩) R ⟨h, g, d, t, os⟩ := by
  refine codeAny_of_tree ?_
  show wpAny _ _ (callAny (.ref C) _) _ _ _
  refine nd_load hC ?_
  show wpAny _ _ (callAny.viaDunder (.ref C) _) _ _ _
  unfold callAny.viaDunder
  refine wpAny_bind (hcall.at ?_)
  dsimp only
  rw [tc_bind]
  refine wpAny_bind (wpAny_pure (wpAny_bind (wpAny_pure ?_)))
  refine wpAny_pure (a := Fin.again (.call (.builtin "type.__call__") ⟨.ref C :: rest, []⟩)) (And.intro rfl ?_)
  refine codeAny_call_builtin_at (Code.quiet_builtin _ (by decide +kernel)) entry_typeCall (check_slot tc_kind tc_split htyp (tc_args _ _ _) ?_)
  have hm : Looks (model prog w) h (mroOf (.ref C)) (.ref C :: bm) := ((Looks.ld (part := none) hC).andThen .now).andThen .now
  have hmade : Looks (model prog w) h (Bind.madeBy (.ref C)) (some newId) := fun A Q E s k q => by
    obtain ⟨hh, g, d, t, os⟩ := s
    exact wpAny_madeBy_exc (k _ _ hC) q
  have tcl : (Value.ref C == Value.type "type") = false := rfl
  unfold Builtin.«type.__call__»
  dsimp only
  rw [tcl]
  simp only [Bool.false_eq_true, if_false]
  refine wpAny_bind (hm.here ?_)
  simp only [List.isEmpty_cons, Bool.false_eq_true, if_false]
  refine wpAny_bind (hmade.here ?_)
  refine wpAny_bind (wpAny_pure ?_)
  refine wpAny_bind (wpAny_holding (wpAny_call ?_))
  refine codeAny_call_builtin_code (Code.quiet_builtin _ F.quiet) (wpAny_check_new_sub F hC ?_)
  refine codeAny_exc_new_sub F hC ?_ hrest
  have k : ∀ b o, h.get? b = some o → ((h.push { cls := .type "tuple", data := .seq rest.toArray }).push { cls := .ref C, data := .fields #[.ref h.objs.size, .none, .none, .none, .bool false, .none] }).get? b = some o :=
    fun b o e => Heap.get?_push_of_some _ (Heap.get?_push_of_some _ e)
  have hx : ((h.push { cls := .type "tuple", data := .seq rest.toArray }).push { cls := .ref C, data := .fields #[.ref h.objs.size, .none, .none, .none, .bool false, .none] }).get? (h.objs.size + 1) = some
      { cls := .ref C, data := .fields #[.ref h.objs.size, .none, .none, .none, .bool false, .none] } := by heap_get
  have t1 : Looks (model prog w) ((h.push { cls := .type "tuple", data := .seq rest.toArray }).push { cls := .ref C, data := .fields #[.ref h.objs.size, .none, .none, .none, .bool false, .none] }) (typeOf (.ref (h.objs.size + 1))) (.ref C) := (Looks.ld hx).andThen .now
  have s1 := hself.keeps k
  have i1 := hi.keeps k
  have b1 := (hb (.ref (h.objs.size + 1))).keeps k
  have ii : Looks (model prog w) ((h.push { cls := .type "tuple", data := .seq rest.toArray }).push { cls := .ref C, data := .fields #[.ref h.objs.size, .none, .none, .none, .bool false, .none] }) (isInstance (.ref (h.objs.size + 1)) (.ref C)) true := t1.andThen s1
  refine wpAny_bind (ii.at ?_)
  simp only [Bool.not_true, Bool.false_eq_true, if_false]
  unfold callSpecial? specialOf
  repeat (first | with_reducible refine wpAny_call ?_ | lk)
  refine codeAny_mono hq fun r s' z => ?_
  rcases r with e | (v | _ | _ | _) <;> first | exact z | exact z.elim | skip
  obtain ⟨rfl, z⟩ := z
  exact wpAny_pure (wpAny_pure z)
theorem store_in_dict {prog : Program} {w : World} {A : Around} {s : Shared} {E' : Value → Shared → Prop} {Q : Fin → Shared → Prop} {d : Addr} {es : List DictEntry} {k : Nat} {name : Str} {tk : Tok} {v : Value} (D : s.heap.get? d = some (dictOf es k)) (hl : (PySem.W.getL name es).isSome = true)
    (hz : (putL name (PyData.keyHash w.params name) (.str name s.toks) v es).length ≤ 1000)
    (h : ∀ h', Heap.SameBut d s.heap h' → h'.get? d = some (dictOf (putL name (PyData.keyHash w.params name) (.str name s.toks) v es) (putN name es k)) → Q (.done (.ret .none)) { s with heap := h', toks := s.toks + 1 }) :
    wpAny (model prog w) A (storeInDict d (.str name tk) name v) Q E' s := by
  have D' : (s.heap.update d (Obj.putName name (PyData.keyHash w.params name) (.str name s.toks) v)).get? d = some (dictOf (putL name (PyData.keyHash w.params name) (.str name s.toks) v es) (putN name es k)) := by
    rw [← putName_dict]
    exact Heap.get?_update_self _ D (by rw [putName_dict]; rfl)
  unfold storeInDict
  refine wpAny_bind (wpAny_pure (wpAny_bind ?_))
  unfold nsSet
  refine wpAny_bind (wpAny_bind (wpAny_askSetting (wpAny_pure (wpAny_bind (wpAny_mkText (wpAny_bind (wpAny_loadPart D ?_)))))))
  have hl' := hl
  unfold PySem.W.getL at hl
  have c : (!es.any (·.key.isStr name) && es.any (·.refKey)) = false := by
    split at hl
    · rename_i en he
      rw [List.any_eq_true.mpr ⟨en, List.mem_of_find?_eq_some he, List.find?_some he⟩]; rfl
    · split at hl
      · cases hl
      · rename_i z; rw [Bool.not_eq_true] at z; rw [z, Bool.and_false]
  have c' : (!es.toArray.any (·.key.isStr name) && es.toArray.any (·.refKey)) = false := by
    rw [← Array.any_toList, ← Array.any_toList]; exact c
  dsimp only
  rw [aRefKeyMayBeTheName_at, c']
  refine wpAny_updatePart D ?_
  refine wpAny_bind (wpAny_lookBehind D' (pastItsLine_dict (by rw [List.size_toArray, sizeLine_eq]; omega)) ?_)
  exact wpAny_pure (h _ (Heap.SameBut.update ..) D')
structure KExcSet (K : Frag) (C : Addr) (name : Str) : Prop where
  set : findIn K (.ref C) "__setattr__" = some (some (.builtin "object.__setattr__"))
  cls : ∃ cd, clsIn K C = some cd ∧ cd.hasDict = true ∧ ∀ self, refuseLoop self "__setattr__" cd.mro = pure ()
  obj : mroIn K C (.type "object") = some true
  taker : takerIn K C name = some none
theorem osa_exc {prog : Program} {w : World} {A : Around} {R : Result → Shared → Prop} {s : Shared} {K : Frag} {x C : Addr} {ox : Obj} {od : Option Obj} {name : Str} {tk : Tok} {v : Value} (X : K.In s.heap) (I : InstAt s.heap x ox C od) (k : KExcSet K C name)
    (h : ∀ b, wpAny (model prog w) A.in1 (storeInOwnDict (.ref x) (.ref C) (.str name tk) name v b)
      (fun fin s' => match fin with | .done f => R (.ok f) s' | .again c' => c'.quiet = true ∧ codeAny (model prog w) A c' R s') (fun e s' => R (.error e) s') s) :
    codeAny (model prog w) A (.call (.builtin "object.__setattr__") ⟨[.ref x, .str name tk, v], []⟩) R s := by
  have SF := PySem.F.store_object
  obtain ⟨cd, hc, hdct, ho⟩ := k.cls
  have sub : Looks (model prog w) s.heap (isInstance (.ref x) (.type "object")) true := I.type.andThen (looks_mroIn X k.obj)
  refine codeAny_call_builtin SF.slot.plain SF.entry (@check_slot (model prog w) _ _ s "object.__setattr__" "object" "__setattr__" (.ref x) [.str name tk, v] [] _ SF.kind SF.split sub (SF.args (.ref x) (.str name tk) v) ?_)
  obtain ⟨attr, ha, hr⟩ := Option.bind_eq_some_iff.mp k.taker
  have hm : Looks (model prog w) s.heap (mroOf (.ref C)) cd.mro := (looks_clsIn X hc).andThen .now
  have L3 : Looks (model prog w) s.heap (storeTaker? attr) none := by
    cases attr with
    | none => cases hr; exact .now
    | some a =>
      obtain ⟨b, hb, e⟩ := Option.map_eq_some_iff.mp hr
      refine (looks_takesIn X hb).andThen ?_
      cases b
      · exact .now
      · cases e
  rw [osa_eq, refuse_eq]
  refine wpAny_bind (wpAny_bind (I.type.here (wpAny_bind (hm.here ?_))))
  rw [ho]
  refine wpAny_pure (wpAny_bind (I.type.here (wpAny_bind ((looks_findIn X ha).here (wpAny_bind (L3.here ?_))))))
  exact h _
theorem set_exc1 {a C d : Addr} {fs : List (Str × V)} {name : Str} {dv : V} {Q : Unit → S → Prop} (ok : Ok X n) (h1 : σ.hp a = some (.exc C (some d))) (h2 : σ.hp d = some (.dict fs)) (ks : KExcSet X.K C name)
    (hlen : fs.length ≤ 90) (q : Q () { σ with hp := upd σ.hp d (.dict (updF fs name dv)) }) {σ₀ : S} {s₀ s : Shared} (P : Post X σ₀ s₀ σ s) {v : Value} (vm : VM σ.mu s.heap v dv) :
    wpAny (model X.prog X.w) X.A (setAttr (.ref a) name v) (Qw X σ₀ s₀ RU Q) (Ew X σ₀ s₀ E) s := by
  have st := P.st
  obtain ⟨⟨vs, a0, g1, v0, v1, v6⟩, _⟩ := st.own a _ h1
  obtain ⟨⟨es, k, g2, en, _⟩, _⟩ := st.own d _ h2
  have I : InstAt s.heap a { cls := .ref C, dict := some d, data := .fields vs } C (some (dictOf es k)) := ⟨g1, rfl, rfl, g2⟩
  have inK := st.inK ok
  refine set_plain inK I ks.set ?_
  obtain ⟨cd, hc, hdct, _⟩ := ks.cls
  refine osa_exc (s := { s with toks := s.toks + 1 }) inK I ks fun b => ?_
  have hl : (PySem.W.getL name es).isSome = true := by
    cases e : lk fs name with
    | none => rw [en.getL.2 e]; rfl
    | some d' => obtain ⟨w, e', _⟩ := en.getL.1 d' e; rw [e']; rfl
  have el := en.length
  have en' := en.put (name := name) (hs := PyData.keyHash X.w.params name) (tk := s.toks + 1) vm
  have el' := en'.length
  have ul := updF_length fs name dv
  refine wpAny_bind (wpAny_pure (wpAny_bind (wpAny_bind (wpAny_loadPart (o := { cls := .ref C, dict := some d, data := .fields vs }) g1 ?_))))
  dsimp only
  refine wpAny_bind (looks_clsIn inK hc _ _ _ _ (fun _ _ e => e) ?_)
  rw [hdct]
  refine wpAny_pure (a := some d) ?_
  refine store_in_dict (s := { s with toks := s.toks + 1 }) g2 hl (by show (putL name (PyData.keyHash X.w.params name) (.str name (s.toks + 1)) v es).length ≤ 1000; omega) fun h' hs g' => ?_
  obtain ⟨m, hn, hm⟩ := st.names
  have dL : X.env.locals ≠ d := fun e => st.locOff (by rw [e]; show σ.hp d ≠ none; rw [h2]; exact Option.some_ne_none _)
  exact ⟨(), _, P.trans (post_write (o := .dict (updF fs name dv)) ok st (fun b o n1 _ q => (hs.2 b n1).trans q) ⟨m, hn.at' (fun o q => (hs.2 _ dL).trans q), hm⟩ (.inl (by rw [h2]; exact Option.some_ne_none _)) fun _ me _ => ⟨_, _, g', me _ _ en', Nat.le_trans (Nat.le_of_eq el') (by omega)⟩), trivial, q⟩
theorem set_exc0 {a C : Addr} {name : Str} {dv : V} {Q : Unit → S → Prop} (ok : Ok X n) (h1 : σ.hp a = some (.exc C none)) (ks : KExcSet X.K C name)
    (q : ∀ d, σ.hp d = none → Q () { σ with hp := upd (upd σ.hp a (.exc C (some d))) d (.dict [(name, dv)]) }) {σ₀ : S} {s₀ s : Shared} (P : Post X σ₀ s₀ σ s) {v : Value} (vm : VM σ.mu s.heap v dv) :
    wpAny (model X.prog X.w) X.A (setAttr (.ref a) name v) (Qw X σ₀ s₀ RU Q) (Ew X σ₀ s₀ E) s := by
  have st := P.st
  obtain ⟨⟨vs, a0, g1, v0, v1, v6⟩, _⟩ := st.own a _ h1
  have I : InstAt s.heap a { cls := .ref C, dict := none, data := .fields vs } C none := ⟨g1, rfl, rfl, trivial⟩
  have inK := st.inK ok
  refine set_plain inK I ks.set ?_
  obtain ⟨cd, hc, hdct, _⟩ := ks.cls
  refine osa_exc (s := { s with toks := s.toks + 1 }) inK I ks fun b => ?_
  refine wpAny_bind (wpAny_pure (wpAny_bind (wpAny_bind (wpAny_loadPart (o := { cls := .ref C, dict := none, data := .fields vs }) g1 ?_))))
  dsimp only
  refine wpAny_bind (looks_clsIn inK hc _ _ _ _ (fun _ _ e => e) ?_)
  rw [hdct]
  simp only [Bool.not_true, Bool.false_eq_true, if_false, Bool.or_false]
  have hnew : s.heap.get? s.heap.objs.size = none := Heap.get?_none_of_le (Nat.le_refl _)
  have an : a ≠ s.heap.objs.size := Nat.ne_of_lt (Heap.lt_size g1)
  refine wpAny_bind (wpAny_alloc ?_)
  have g1' := Heap.get?_push_of_some emptyDict g1
  refine wpAny_bind (wpAny_update g1' ?_)
  have g3 : ((s.heap.push emptyDict).update a fun o => { o with dict := some s.heap.objs.size }).get? a = some { cls := .ref C, dict := some s.heap.objs.size, data := .fields vs } := Heap.get?_update_self _ g1' rfl
  have g4 : ((s.heap.push emptyDict).update a fun o => { o with dict := some s.heap.objs.size }).get? s.heap.objs.size = some (dictOf [] 0) := (Heap.get?_update_other _ _ an).trans (Heap.get?_push_size _ rfl)
  refine wpAny_bind (wpAny_pure (wpAny_pure ?_))
  obtain ⟨m, hn, hm⟩ := st.names
  have aL : X.env.locals ≠ a := fun e => st.locOff (by rw [e]; show σ.hp a ≠ none; rw [h1]; exact Option.some_ne_none _)
  have dn := new_none st
  have dL : X.env.locals ≠ s.heap.objs.size := Nat.ne_of_lt hn.lt
  have P₁ := post_write (h' := s.heap.push emptyDict) (tk := s.toks) (a := s.heap.objs.size) (o := .dict []) ok st (fun b o _ _ g => Heap.get?_push_of_some _ g) ⟨m, hn.push _, hm⟩ (.inr hnew) fun _ _ _ => ⟨[], 0, Heap.get?_push_size _ rfl, .nil, by decide⟩
  have h1' : upd σ.hp s.heap.objs.size (.dict []) a = some (.exc C none) := (upd_ne an).trans h1
  obtain ⟨m₁, hn₁, hm₁⟩ := P₁.st.names
  have P₂ := post_write (h' := (s.heap.push emptyDict).update a fun o => { o with dict := some s.heap.objs.size }) (tk := s.toks + 1) (a := a) (o := .exc C (some s.heap.objs.size)) ok P₁.st (fun b o n1 _ g => (Heap.get?_update_other _ _ (Ne.symm n1)).trans g)
    ⟨m₁, hn₁.at' (fun o g => (Heap.get?_update_other _ _ (Ne.symm aL)).trans g), hm₁⟩ (.inl (by show upd σ.hp s.heap.objs.size (.dict []) a ≠ none; rw [h1']; exact Option.some_ne_none _)) fun _ _ _ => ⟨vs, a0, g3, v0, v1, v6⟩
  have P12 := P₁.trans P₂
  have vm₂ := vm.mono P12.ext
  refine store_in_dict (s := { s with heap := (s.heap.push emptyDict).update a fun o => { o with dict := some s.heap.objs.size }, toks := s.toks + 1 }) g4 rfl (by simp [putL]) fun h' hs g' => ?_
  obtain ⟨m₂, hn₂, hm₂⟩ := P₂.st.names
  have en' := (Ents.nil : Ents _ ((s.heap.push emptyDict).update a fun o => { o with dict := some s.heap.objs.size }) [] []).put (name := name) (hs := PyData.keyHash X.w.params name) (tk := s.toks + 1) vm₂
  have P₃ := post_write (h' := h') (tk := s.toks + 1 + 1) (a := s.heap.objs.size) (o := .dict [(name, dv)]) ok P₂.st (fun b o n1 _ g => (hs.2 b n1).trans g) ⟨m₂, hn₂.at' (fun o g => (hs.2 _ dL).trans g), hm₂⟩
    (.inl (by show upd (upd σ.hp s.heap.objs.size (.dict [])) a _ s.heap.objs.size ≠ none; rw [upd_ne (Ne.symm an), upd_self]; exact Option.some_ne_none _)) fun _ me _ => ⟨_, _, g', me _ _ en', by simp [putL]⟩
  have e : upd (upd (upd σ.hp s.heap.objs.size (.dict [])) a (.exc C (some s.heap.objs.size))) s.heap.objs.size (.dict [(name, dv)]) = upd (upd σ.hp a (.exc C (some s.heap.objs.size))) s.heap.objs.size (.dict [(name, dv)]) := by
    funext b; unfold upd; repeat' split
    all_goals rfl
  have PP := P.trans (P12.trans P₃)
  exact ⟨(), _, PP, trivial, by have := q _ dn; rwa [← e] at this⟩
end
end Mine
namespace Mine
open PySem PySem.W PySem.Calls PySem.Spec PyProof.Rows Builtin Builtin.ObjectAttr Builtin.BaseException
theorem own_init : classOwn (.type "Exception") "__init__" = pure (some (.builtin "Exception.__init__")) := by kernel_rfl
theorem slot_wd : Slot "wrapper_descriptor" "__get__" "wrapper_descriptor.__get__" :=
  .of (owner := "wrapper_descriptor") (n := "__get__") (by rw [typeLookup_type, builtinLookup_eq_fast]; kernel_rfl) (by decide +kernel) (by decide +kernel) (by decide +kernel)
    (by first | exact .inl (by decide +kernel) | exact .inr (by decide +kernel)) (by rw [isSubtype_type]; kernel_rfl)
theorem type_init : typeOf (.builtin "Exception.__init__") = pure (.type "wrapper_descriptor") := by show builtinType _ = _; rw [builtinType_eq_fast]; kernel_rfl
theorem entry_wd : entryFor table "wrapper_descriptor.__get__" = some Builtin.«wrapper_descriptor.__get__» := entryFor_of_tree (by kernel_rfl)
theorem args_wd (a b c : Value) : argsOk "wrapper_descriptor.__get__" ⟨[a, b, c], []⟩ := by unfold argsOk; kernel_rfl
theorem wd_get {prog : Program} {w : World} {A : Around} {s : Shared} {K : Frag} {x C : Addr} {R : Result → Shared → Prop} {ox : Obj} (X : K.In s.heap) (hx : s.heap.get? x = some ox) (hcx : ox.cls = .ref C) (hm : mroIn K C (.type "Exception") = some true)
    (h : R (.ok (.ret (.ref s.heap.objs.size))) { s with heap := s.heap.push { cls := .type "method-wrapper", data := .fields #[.builtin "Exception.__init__", .ref x] } }) : codeAny (model prog w) A (.call (.builtin "wrapper_descriptor.__get__") ⟨[.builtin "Exception.__init__", .ref x, .ref C], []⟩) R s := by
  obtain ⟨hh, g, dr, t, os⟩ := s
  have L0 : Looks (model prog w) hh (typeOf (.ref x)) (.ref C) := hcx ▸ (Looks.ld hx).andThen .now
  have L1 := looks_mroIn (M := model prog w) X hm
  refine codeAny_call_builtin slot_wd.plain entry_wd (slot_wd.check _ _ _ _ _ _ _ _ type_init (args_wd _ _ _) ?_)
  unfold Builtin.«wrapper_descriptor.__get__»
  have e : ".".intercalate ("Exception.__init__".cutAt '.').dropLast = "Exception" := by decide +kernel
  have L2 : Looks (model prog w) hh (isSubtype (.ref C) (.type (".".intercalate ("Exception.__init__".cutAt '.').dropLast))) true := by rw [e]; exact L1
  repeat lk
  exact h
theorem super_ga_init {prog : Program} {w : World} {A : Around} {E : Value → Shared → Prop} {h : Heap} {g : Array GenState} {d : Drawn} {t : Nat} {os : OsState} {K : Frag} {so D x C : Addr} {ox : Obj} {l₀ r : List Value} {tk : Tok} {Q : Fin → Shared → Prop}
    (hso : h.get? so = some { cls := .type "super", dict := none, data := .fields #[.ref D, .ref x, .ref C], slots := #[] }) (hno : Looks (model prog w) h (opaqueClassAbove (.ref C)) none)
    (hC : Looks (model prog w) h (mroOf (.ref C)) l₀) (hl : (l₀.dropWhile (· != .ref D)).drop 1 = .type "Exception" :: r) (X : K.In h) (hx : h.get? x = some ox) (hcx : ox.cls = .ref C) (hm : mroIn K C (.type "Exception") = some true) (hxC : x ≠ C)
    (hq : Q (.done (.ret (.ref h.objs.size))) ⟨h.push { cls := .type "method-wrapper", data := .fields #[.builtin "Exception.__init__", .ref x] }, g, d, t, os⟩) :
    wpAny (model prog w) A (Builtin.«super.__getattribute__» ⟨[.ref so, .str "__init__" tk], []⟩) Q E ⟨h, g, d, t, os⟩ := by
  have hne : (Value.ref x == Value.ref C) = false := by simp [hxC]
  have hdt : ({ cls := .type "super", dict := none, data := .fields #[.ref D, .ref x, .ref C], slots := #[] } : Obj).data = .fields #[.ref D, .ref x, .ref C] := rfl
  have f0 : (#[.ref D, .ref x, .ref C] : Array Value)[0]? = some (.ref D) := rfl
  have f1 : (#[.ref D, .ref x, .ref C] : Array Value)[1]? = some (.ref x) := rfl
  have f2 : (#[.ref D, .ref x, .ref C] : Array Value)[2]? = some (.ref C) := rfl
  have hn : (("__init__" : Str) == ("__class__" : Str)) = false := by decide
  have A0 := looks_field (M := model prog w) hso 0 f0
  have A1 := looks_field (M := model prog w) hso 1 f1
  have A2 := looks_field (M := model prog w) hso 2 f2
  have A3 : Looks (model prog w) h (notOfAnOpaqueClass (Str.toString "__init__") "" (.ref C)) () := fun A Q E s k q => by
    obtain ⟨hh, g, d, t, os⟩ := s
    exact ks_wpAny_notOpaque (hno.keeps k) q
  have A4 : Looks (model prog w) h (classOwn (.type "Exception") "__init__") (some (.builtin "Exception.__init__")) := .of_pure own_init
  have A5 : Looks (model prog w) h (typeOf (.builtin "Exception.__init__")) (.type "wrapper_descriptor") := .of_pure type_init
  have A6 : Looks (model prog w) h (typeLookup (.type "wrapper_descriptor") "__get__") (some (.builtin "wrapper_descriptor.__get__")) := .of_pure slot_wd.lookup
  have A7 : Looks (model prog w) h (asStr? (.str "__init__" tk)) (some "__init__") := .of_pure (by kernel_rfl)
  unfold Builtin.«super.__getattribute__»
  dsimp only
  refine wpAny_bind (A7.at ?_)
  simp only [Option.isNone_some, Bool.false_eq_true, if_false]
  refine wpAny_bind (A7.at ?_)
  dsimp only
  refine wpAny_bind (A0.at (wpAny_bind (A1.at (wpAny_bind (A2.at ?_)))))
  rw [if_neg (by simp [hn])]
  refine wpAny_bind (A3.at ?_)
  rw [if_neg (by simp)]
  refine wpAny_bind (hC.at ?_)
  rw [hl, List.forIn_cons]
  refine wpAny_bind (wpAny_bind (wpAny_bind (A4.at ?_)))
  dsimp only
  refine wpAny_bind (A5.at (wpAny_bind (A6.at ?_)))
  dsimp only
  rw [hne]
  simp only [Bool.false_eq_true, if_false]
  refine wpAny_bind (wpAny_holding (wpAny_call (wd_get X hx hcx hm (wpAny_bind (wpAny_pure (wpAny_pure (wpAny_pure (wpAny_pure hq))))))))
theorem getm_super {prog : Program} {w : World} {A : Around} {E : Value → Shared → Prop} {h : Heap} {g : Array GenState} {d : Drawn} {t : Nat} {os : OsState} {K : Frag} {so D x C : Addr} {ox : Obj} {l₀ r : List Value} {pl : Sem Bool} {Q : Value × List Value → Shared → Prop}
    (hso : h.get? so = some { cls := .type "super", dict := none, data := .fields #[.ref D, .ref x, .ref C], slots := #[] }) (hno : Looks (model prog w) h (opaqueClassAbove (.ref C)) none)
    (hC : Looks (model prog w) h (mroOf (.ref C)) l₀) (hl : (l₀.dropWhile (· != .ref D)).drop 1 = .type "Exception" :: r) (X : K.In h) (hx : h.get? x = some ox) (hcx : ox.cls = .ref C) (hm : mroIn K C (.type "Exception") = some true) (hxC : x ≠ C)
    (hq : Q (.ref h.objs.size, []) ⟨h.push { cls := .type "method-wrapper", data := .fields #[.builtin "Exception.__init__", .ref x] }, g, d, t + 1, os⟩) :
    wpAny (model prog w) A (getMethod (.ref so) "__init__" pl) Q E ⟨h, g, d, t, os⟩ := by
  have hlk := F.ks_slot_super_ga.lookup
  have hcan := F.ks_canon_super_ga
  have hT : ∀ t', (⟨h, g, d, t', os⟩ : Shared).TypeIs (.ref so) "super" := fun _ => ⟨_, hso, rfl⟩
  unfold getMethod
  refine wpAny_bind (wpAny_specialOf (hT _) hlk ?_)
  show wpAny _ _ (if (Manifest.canonical "super.__getattribute__" != "object.__getattribute__") = true then _ else _) _ _ _
  rw [if_pos hcan]
  unfold getAttr getAttrBy
  refine wpAny_bind (wpAny_bind (wpAny_mkText (wpAny_holding (wpAny_bind (wpAny_typeOf (hT _) (wpAny_bind (wpAny_of_eq hlk ?_)))))))
  show wpAny _ _ (getAttrByItsOwn (.ref so) (.str "__init__" t) (.type "super") (.builtin "super.__getattribute__") true false) _ _ _
  unfold getAttrByItsOwn hookBefore callGetattribute boundAndCalled
  refine wpAny_bind (wpAny_of_eq (show (if onTheHeap (.type "super") then typeLookup (.type "super") "__getattr__" else pure none) = pure none from rfl) ?_)
  refine wpAny_bind (wpAny_attempt (wpAny_holding ?_))
  show wpAny _ _ (bindSpecial (.builtin "super.__getattribute__") (.ref so) >>= _) _ _ _
  refine wpAny_bind (wpAny_of_eq (F.ks_slot_super_ga.bind _) ?_)
  refine wpAny_mono (Q := fun v s' => v = .ref h.objs.size ∧ s' = ⟨h.push { cls := .type "method-wrapper", data := .fields #[.builtin "Exception.__init__", .ref x] }, g, d, t + 1, os⟩) (E := fun _ _ => False)
    (wpAny_call_entry F.ks_slot_super_ga (hT _) F.ks_entry_super_ga (super_ga_init hso hno hC hl X hx hcx hm hxC ⟨_, rfl, rfl, rfl⟩) (F.ks_gaArgs_super _ _)) (fun v s' hv => ?_) fun _ _ z => z.elim
  obtain ⟨rfl, rfl⟩ := hv
  exact wpAny_pure (wpAny_pure hq)
theorem check_bound {M : Model} {A : Around} {E : Value → Shared → Prop} {h : Heap} {g : Array GenState} {d : Drawn} {t : Nat} {os : OsState} {e C : Addr} {oe : Obj} {v : Value} {Q : Unit → Shared → Prop}
    {nm q : Str} {N : Addr} {bs bm : List Value} {hdct : Bool} {sn : List Str} {sub : List Value} {ab : Bool} {col : Option Bool} {dd : Option Addr} {k0 k1 k2 k3 k5 : Option Value} {newId : String}
    (FB : ExcBaseFacts "Exception" newId "Exception.__init__" bm) (hC : h.get? C = some (excClassObj nm q C N bs bm hdct sn sub ab col dd k0 k1 k2 k3 k5 newId)) (he : h.get? e = some oe) (hcls : oe.cls = .ref C)
    (hq : Q () ⟨h, g, d, t, os⟩) : wpAny M A (checkBoundCall "Exception.__init__" ⟨[.ref e, v], []⟩) Q E ⟨h, g, d, t, os⟩ := by
  have hcB : (Value.ref C :: bm).contains (.type "Exception") = true := by rw [List.contains_cons, FB.hasB, Bool.or_true]
  have hshort := FB.noStar
  simp only [checkBoundCall, FB.initKind, FB.initRow]
  rw [if_pos (by decide)]
  repeat (first | (with_reducible refine wpAny_loadPart_at he ?_; rw [hcls]) | with_reducible refine wpAny_loadPart_at hC ?_ | (with_reducible refine wpAny_isSubtype_exc hC ?_; rw [hcB]) | wp_step)
  exact hq
section
variable {X : Cx} {n : Nat} {σ : S} {E : Value → S → Prop}
theorem call_wrapper {q a C : Addr} {od : Option Addr} {v : Value} {s : Shared} {σ₀ : S} {s₀ : Shared} {Q : V → S → Prop}
    {nm qn : Str} {N : Addr} {bs bm : List Value} {hdct : Bool} {sn : List Str} {sub : List Value} {ab : Bool} {col : Option Bool} {dd : Option Addr} {k0 k1 k2 k3 k5 : Option Value} {newId : String}
    (FB : ExcBaseFacts "Exception" newId "Exception.__init__" bm) (ok : Ok X n) (hC : X.K.lookup C = some (excClassObj nm qn C N bs bm hdct sn sub ab col dd k0 k1 k2 k3 k5 newId)) (P : Post X σ₀ s₀ σ s) (h1 : σ.hp a = some (.exc C od)) (gq : s.heap.get? q = some { cls := .type "method-wrapper", data := .fields #[.builtin "Exception.__init__", .ref a] })
    (qq : Q .none σ) : wpAny (model X.prog X.w) X.A (call (.ref q) [v]) (Qw X σ₀ s₀ VM Q) (Ew X σ₀ s₀ E) s := by
  obtain ⟨⟨vs, a0, g, v0, v1, v6⟩, _⟩ := P.st.own a _ h1
  have hC' := P.st.inK ok _ _ hC
  refine wpAny_call (codeAny_of_tree ?_)
  show wpAny _ _ (callAny (.ref q) _) _ _ _
  refine nd_load gq ?_
  show wpAny _ _ (checkBoundCall "Exception.__init__" ⟨[.ref a, v], []⟩ >>= fun _ => again (.builtin "Exception.__init__" ⟨[.ref a, v], []⟩)) _ _ _
  obtain ⟨hh, gn, dr, tk, os⟩ := s
  refine wpAny_bind (check_bound FB hC' g rfl ?_)
  refine wpAny_pure ⟨Code.quiet_builtin _ (by decide +kernel), ?_⟩
  refine codeAny_builtin FB.initEntry ?_
  unfold Builtin.«BaseException.__init__»
  dsimp only
  rw [if_neg (by decide)]
  unfold newTuple
  refine wpAny_bind (wpAny_newObj_type ?_ (by show [v].toArray.size ≤ sizeLine; rw [sizeLine_eq]; simp))
  have P₁ := st_push P.st { cls := .type "tuple", data := .seq [v].toArray }
  have g₁ := Heap.get?_push_of_some { cls := .type "tuple", data := .seq [v].toArray } g
  unfold bexcPut
  have hA : ∀ {A : Around}, wpAny (model X.prog X.w) A (do setField (.ref a) 0 (.ref hh.objs.size); if let .ref _ := a0 then letGo [a0] []) (fun _ s' => Qw X σ₀ s₀ VM Q .none s') (fun e s' => Ew X σ₀ s₀ E e s') ⟨hh.push { cls := .type "tuple", data := .seq [v].toArray }, gn, dr, tk, os⟩ := by
    intro A
    refine wpAny_bind (exc_field ok P₁.st h1 g₁ v0 v1 v6 (by decide) (by decide) fun h₂ b0 P₂ g₂ w0 w1 w6 => ?_)
    have PP := (P.trans P₁).trans P₂
    split
    · exact wpAny_letGo ⟨.none, σ, PP, .none, qq⟩
    · exact wpAny_pure ⟨.none, σ, PP, .none, qq⟩
  refine wpAny_bind (wpAny_bind (wpAny_field g₁ rfl v0 (wpAny_mono hA (fun _ s' z => ?_) fun _ _ z => z)))
  exact wpAny_pure z
structure KSup (X : Cx) (fI C : Addr) (sf : Str) : Prop where
  func : X.env.func = some fI
  fd : ∃ oc od fd osl ar, X.K.lookup fI = some ⟨oc, od, .func fd, osl⟩ ∧ (fd.params.posonlyargs ++ fd.params.args).head? = some ar ∧ ar.arg = sf
  code : ∃ c oc od vs sl file tf, X.env.code = .ref c ∧ X.K.lookup c = some ⟨oc, od, .fields vs, sl⟩ ∧ vs[2]? = some (.str file tf) ∧ ((X.prog.main.file : Str) == file) = true
  top : (X.prog.main.scope.names.lookup ("super" : Str)).isSome = false
  super : X.env.kindOf "super" = some .globalImplicit
  cls : X.env.kindOf "__class__" = some .free
  cell : ∃ cc oc od sl, X.env.cells.lookup ("__class__" : Str) = some cc ∧ X.K.lookup cc = some ⟨oc, od, .cell (some (.ref C)), sl⟩
  glob : nsIn X.K mainGlobals "super" = some none
  boot : bootBuiltins "super" = some (.type "super")
  sub : mroIn X.K C (.ref C) = some true
  exc : mroIn X.K C (.type "Exception") = some true
  opaq : nsIn X.K cStatics "thirdparty.any" = some none
  selfLoc : X.env.kindOf sf = some .local
theorem super_stmt {fI C a : Addr} {sf y : Str} {od : Option Addr} {body : List Stmt} {p0 p1 ap np pos pos' : Pos} {Q : FV → S → Prop} {dy : V}
    {nm qn : Str} {N : Addr} {bs bm : List Value} {hdct : Bool} {sn : List Str} {sub : List Value} {ab : Bool} {col : Option Bool} {dd : Option Addr} {k0 k1 k2 k3 k5 : Option Value} {newId : String} {r : List Value}
    (FB : ExcBaseFacts "Exception" newId "Exception.__init__" bm) (ok : Ok X n) (hC : X.K.lookup C = some (excClassObj nm qn C N bs bm hdct sn sub ab col dd k0 k1 k2 k3 k5 newId)) (hbm : bm = .type "Exception" :: r)
    (ks : KSup X fI C sf) (hself : lk σ.loc sf = some (.ref a)) (h1 : σ.hp a = some (.exc C od)) (hy : lk σ.loc y = some dy) (hyk : X.env.kindOf y = some .local) (hyd : (y == ("__debug__" : Str)) = false)
    (hline : (ap.endLine == pos.line) = true) (hsw : ∀ env, swapsWith (.Call (.Attribute (.Call (.Name "super" p0) [] [] p1) "__init__" ap) [.Name y np] [] pos) none pos'.line env = pure false) (q : Q .next σ) {σ₀ : S} {s₀ s : Shared} (P : Post X σ₀ s₀ σ s) :
    PySem.wpAt (model X.prog X.w) X.A (.func body X.env) (exec (.Expr (.Call (.Attribute (.Call (.Name "super" p0) [] [] p1) "__init__" ap) [.Name y np] [] pos) pos') X.env) (Qw X σ₀ s₀ FM Q) (Ew X σ₀ s₀ E) s := by
  have st := P.st
  obtain ⟨oc1, od1, fd, osl1, ar, hfd, har, hasf⟩ := ks.fd
  obtain ⟨c, oc2, od2, vs2, sl2, file, tf, hcode, hcl, hv2, hfile⟩ := ks.code
  obtain ⟨cc, oc3, od3, sl3, hcell, hcc⟩ := ks.cell
  obtain ⟨⟨vs, a0, g, v0, v1, v6⟩, _⟩ := st.own a _ h1
  have inK := st.inK ok
  have hCn : a ≠ C := fun e => by
    have gC := inK _ _ hC
    rw [← e, g] at gC
    injection gC with gC
    have := congrArg Obj.data gC
    simp [excClassObj] at this
  refine ks_wpAt_Expr_any ?_ (by unfold interactive; rw [ok.kind]; rfl) (hsw _)
  refine ks_wpAt_MethodCall (pl := do return (← importBound (.Call (.Name "super" p0) [] [] p1) X.env).getD true) ?_ ?_
  · refine ks_wpAt_super_base ks.super ks.cls (by decide) ks.func (inK _ _ hfd) rfl har hcode (inK _ _ hcl) rfl hv2 hfile ks.top ?_
    refine ks_loadName_global ok.kind ks.super (loadGlobal_builtin (ok.genv ▸ ok.top.g.keeps st.base) (mg_none_of ok.inK ok.top.g ks.glob) (ok.benv ▸ ok.top.b.keeps st.base) ((ok.top.builtins _ (by decide)).trans ks.boot) ⟨rfl, ?_⟩)
    have hcc' := inK _ _ hcc
    refine wpAny_loadName_free ok.kind ks.cls hcell ⟨_, hcc', rfl⟩ ?_
    obtain ⟨m, hn, hm⟩ := st.names
    obtain ⟨v, hv, vm⟩ := hm _ _ hself
    obtain rfl := vm.refI
    rw [hasf]
    refine wpAny_loadName_local ok.kind ks.selfLoc hn hv ?_
    obtain ⟨hh, gn, dr, tk, os⟩ := s
    dsimp only at inK g hn hm
    have gC := inK _ _ hC
    refine ks_wpAny_isType_cls gC rfl ⟨rfl, ?_⟩
    refine ks_wpAny_call_super gC rfl g rfl (fun c e => by cases e) (looks_mroIn inK ks.sub) fun h' hso hk => ?_
    have P₁ := Post.keeps (s := ⟨hh, gn, dr, tk, os⟩) st h' tk rfl hk
    have inK₁ := P₁.st.inK ok
    have gC₁ := hk _ _ gC
    have hroC : Looks (model X.prog X.w) h' (mroOf (.ref C)) (.ref C :: bm) := ((Looks.ld (part := none) gC₁).andThen .now).andThen .now
    refine getm_super (l₀ := .ref C :: bm) (r := r) hso (looks_opaque inK₁ ks.opaq) hroC ?_ inK₁ (hk _ _ g) rfl ks.exc hCn ?_
    · rw [hbm, List.dropWhile_cons_of_neg (by simp)]; rfl
    dsimp only
    have hw := Heap.get?_push_size h' (o := { cls := .type "method-wrapper", data := .fields #[.builtin "Exception.__init__", .ref a] }) rfl
    have P₂ := (P₁.trans (st_push P₁.st { cls := .type "method-wrapper", data := .fields #[.builtin "Exception.__init__", .ref a] })).trans (Post.keeps (s' := ⟨h'.push { cls := .type "method-wrapper", data := .fields #[.builtin "Exception.__init__", .ref a] }, gn, dr, tk + 1, os⟩) (st_push P₁.st _).st _ (tk + 1) rfl fun _ _ e => e)
    refine callWith_of (P := fun h => h.get? h'.objs.size = some { cls := .type "method-wrapper", data := .fields #[.builtin "Exception.__init__", .ref a] }) rfl (fun h e => ⟨.machine, .inr (.inl rfl), (Looks.ld e).andThen .now⟩) ?_
    obtain ⟨m₂, hn₂, hm₂⟩ := P₂.st.names
    obtain ⟨vy, hvy, vmy⟩ := hm₂ _ _ hy
    refine evalArgs_plain (spliced_cons (wpAny_Name (wpAny_loadName_local ok.kind hyk hn₂ hvy (spliced_nil ⟨hw, ?_⟩)) hyd))
    exact wpAny_mono (call_wrapper (Q := fun _ σ' => Q .next σ') FB ok hC (P.trans P₂) h1 hw q) (fun _ _ ⟨_, σ', P', _, q'⟩ => ⟨.next, σ', P', trivial, q'⟩) fun _ _ e => e
  · rw [arm_eval_Call]
    unfold methodCall calleeOf methodCallPos
    have e : methodCallForm ([Expr.Name y np].length + ([] : List Keyword).length) (backTo pos (starEach [.Name y np] X.env)) (backToKw pos (keywordEach [] X.env)) = true := rfl
    rw [e, hline]
    rfl
end
end Mine
namespace Mine
open PySem PySem.W PySem.Calls PySem.Spec PyProof.Rows
section
variable {X : Cx} {n : Nat} {σ : S} {E : Value → S → Prop}
theorem VM.strE {mu : Addr → Prop} {h : Heap} {x : Str} {t : Tok} {l : List Nat} (e : x.cps.toList = l) : VM mu h (.str x t) (.str l) := e ▸ .str x t
section ops
variable {a b : Int} {x y : List Nat} {Q : V → S → Prop}
theorem o_addi (q : Q (.int (a + b)) σ) : Op2 X (binaryOp .Add) (.int a) (.int b) σ Q E := fun _ _ _ st va wb => by
  obtain ⟨_, rfl⟩ := va.intI; obtain ⟨_, rfl⟩ := wb.intI; exact PyProof.Rows.add_int (qw_same st _ (.int _ _) q)
theorem o_subi (q : Q (.int (a - b)) σ) : Op2 X (binaryOp .Sub) (.int a) (.int b) σ Q E := fun _ _ _ st va wb => by
  obtain ⟨_, rfl⟩ := va.intI; obtain ⟨_, rfl⟩ := wb.intI; exact PyProof.Rows.sub_int (qw_same st _ (.int _ _) q)
theorem o_negi {Q : V → S → Prop} (q : Q (.int (-a)) σ) : Op1 X (unaryOp .USub) (.int a) σ Q E := fun _ _ st va => by
  obtain ⟨_, rfl⟩ := va.intI; exact PyProof.Rows.neg_int (qw_same st _ (.int _ _) q)
theorem o_modi (hb : b ≠ 0) (q : Q (.int (a.fmod b)) σ) : Op2 X (binaryOp .Mod) (.int a) (.int b) σ Q E := fun _ _ _ st va wb => by
  obtain ⟨_, rfl⟩ := va.intI; obtain ⟨_, rfl⟩ := wb.intI; exact PyProof.Rows.mod_int' hb (qw_same st _ (.int _ _) q)
theorem o_iaddi (q : Q (.int (a + b)) σ) : Op2 X (inplaceOp .Add) (.int a) (.int b) σ Q E := fun _ _ _ st va wb => by
  obtain ⟨_, rfl⟩ := va.intI; obtain ⟨_, rfl⟩ := wb.intI; exact wpAny_iadd_int (qw_same st _ (.int _ _) q)
theorem o_eqi (q : Q (.bool (a == b)) σ) : Op2 X (compareOp .Eq) (.int a) (.int b) σ Q E := fun _ _ _ st va wb => by
  obtain ⟨_, rfl⟩ := va.intI; obtain ⟨_, rfl⟩ := wb.intI; exact PyProof.Rows.eq_int (qw_self st (.bool _) q)
theorem catLen {x y : List Nat} (h : x.length + y.length ≤ 10000) : (⟨x.toArray⟩ : Str).length + (⟨y.toArray⟩ : Str).length ≤ sizeLine := by
  simp only [Str.length, List.size_toArray]; rw [sizeLine_eq]; omega
theorem cat_cps {x y : List Nat} : ((⟨x.toArray⟩ : Str) ++ (⟨y.toArray⟩ : Str)).cps.toList = x ++ y := by rw [PySem.Str.cps_append]; simp
theorem o_adds (h : x.length + y.length ≤ 10000) (q : Q (.str (x ++ y)) σ) : Op2 X (binaryOp .Add) (.str x) (.str y) σ Q E := fun _ _ _ st va wb => by
  obtain ⟨t, rfl⟩ := va.strI
  obtain ⟨u, rfl⟩ := wb.strI
  exact PyProof.Rows.add_str (fun t' tk => qw_same st _ (.strE cat_cps) q) (catLen h)
theorem o_iadds (h : x.length + y.length ≤ 10000) (q : Q (.str (x ++ y)) σ) : Op2 X (inplaceOp .Add) (.str x) (.str y) σ Q E := fun _ _ _ st va wb => by
  obtain ⟨t, rfl⟩ := va.strI
  obtain ⟨u, rfl⟩ := wb.strI
  exact SB.iadd (fun t' tk => qw_same st _ (.strE cat_cps) q) (catLen h)
theorem str_beq {x y : List Nat} : ((⟨x.toArray⟩ : Str) == ⟨y.toArray⟩) = (x == y) := by
  by_cases h : x = y
  · subst h; simp
  · have : (⟨x.toArray⟩ : Str) ≠ ⟨y.toArray⟩ := fun e => h (by have := congrArg (fun s => s.cps.toList) e; simpa using this)
    rw [beq_eq_false_iff_ne.mpr this, beq_eq_false_iff_ne.mpr h]
theorem o_eqs (q : Q (.bool (x == y)) σ) : Op2 X (compareOp .Eq) (.str x) (.str y) σ Q E := fun _ _ _ st va wb => by
  obtain ⟨t, rfl⟩ := va.strI
  obtain ⟨u, rfl⟩ := wb.strI
  exact PyProof.Rows.eq_str (qw_self st (.bool _) (by rw [str_beq]; exact q))
theorem o_nes (q : Q (.bool (x != y)) σ) : Op2 X (compareOp .NotEq) (.str x) (.str y) σ Q E := fun _ _ _ st va wb => by
  obtain ⟨t, rfl⟩ := va.strI
  obtain ⟨u, rfl⟩ := wb.strI
  refine PyProof.Rows.ne_str (qw_self st (.bool _) ?_)
  rw [bne, str_beq]; exact q
end ops
noncomputable def isN : V → Bool
  | .none => true
  | _ => false
noncomputable def known : V → Prop
  | .lit _ => False
  | _ => True
theorem isN_of {mu : Addr → Prop} {h : Heap} {v : Value} {d : V} (x : VM mu h v d) (k : known d) : (v == Value.none) = isN d := by
  cases x <;> first | rfl | exact k.elim
section ops
variable {d : V} {Q : V → S → Prop}
theorem o_isnone (k : known d) (q : Q (.bool (isN d)) σ) : Op2 X (compareOp .Is) d .none σ Q E := fun _ _ _ st va wb => by
  obtain rfl := wb.noneI
  refine is_none_gen (qw_self st (.bool _) ?_)
  rw [isN_of va k]; exact q
theorem o_notnone (k : known d) (q : Q (.bool (!isN d)) σ) : Op2 X (compareOp .IsNot) d .none σ Q E := fun _ _ _ st va wb => by
  obtain rfl := wb.noneI
  refine isnot_none_gen (qw_self st (.bool _) ?_)
  rw [isN_of va k]; exact q
end ops
section tr
variable {Q : Bool → S → Prop}
theorem t_bool {b : Bool} (q : Q b σ) : Tr X (.bool b) σ Q E := fun _ _ st va => by obtain rfl := va.boolI; exact wpAny_truthy_bool (qw_self st rfl q)
theorem t_none (q : Q false σ) : Tr X .none σ Q E := fun _ _ st va => by obtain rfl := va.noneI; exact wpAny_pure (qw_self st rfl q)
theorem t_str {x : List Nat} (h : x.length ≤ 10000) (q : Q (!x.isEmpty) σ) : Tr X (.str x) σ Q E := fun _ s st va => by
  obtain ⟨t, rfl⟩ := va.strI
  refine P.truthy_str (by simp only [Str.length, List.size_toArray]; omega) (qw_same st _ rfl ?_)
  have : (((⟨x.toArray⟩ : Str).length : Int) != 0) = !x.isEmpty := by cases x <;> simp [Str.length]; omega
  rw [this]; exact q
end tr
end
end Mine
namespace Mine
open PySem PySem.W PySem.Calls PySem.Spec PyProof.Rows
section
variable {X : Cx} {n : Nat} {σ : S} {E : Value → S → Prop}
section
open Builtin Builtin.Str
theorem gives_count4 (x y : Str) (i j : Nat) (t u v w : Tok) : ∃ c : Nat, c ≤ x.length + 1 ∧ Gives («str.count» ⟨[.str x t, .str y u, .int i v, .int j w], []⟩) (.int c) := by
  refine ⟨(occurrences x y (max 0 (if (i : Int) < 0 then (i : Int) + x.length else i)).toNat (min (max 0 (if (j : Int) < 0 then (j : Int) + x.length else j)).toNat x.length) (x.length + 1)).length, StrLaws.occ_length_le _ _ _ _ _, ?_⟩
  exact .of_eq rfl
theorem gives_rfind4 (x y : Str) (i j : Nat) (t u v w : Tok) (hy : 1 ≤ y.length) : ∃ c : Int, c ≤ j ∧ -1 ≤ c ∧ Gives («str.rfind» ⟨[.str x t, .str y u, .int i v, .int j w], []⟩) (.int c) := by
  have key := StrLaws.last_run x y (min (max 0 (if (j : Int) < 0 then (j : Int) + x.length else j)).toNat x.length) (List.range' (max 0 (if (i : Int) < 0 then (i : Int) + x.length else i)).toNat ((min (max 0 (if (j : Int) < 0 then (j : Int) + x.length else j)).toNat x.length) + 1 - (max 0 (if (i : Int) < 0 then (i : Int) + x.length else i)).toNat)) [] none (fun _ h => nomatch h) (fun _ h => nomatch h) (by simpa using List.pairwise_lt_range')
  rw [← StrLaws.last_eq] at key
  cases hr : lastOccurrence x y (max 0 (if (i : Int) < 0 then (i : Int) + x.length else i)).toNat (min (max 0 (if (j : Int) < 0 then (j : Int) + x.length else j)).toNat x.length) with
  | none =>
    refine ⟨-1, by omega, by omega, ?_⟩
    show Gives (match lastOccurrence x y (max 0 (if (i : Int) < 0 then (i : Int) + x.length else i)).toNat (min (max 0 (if (j : Int) < 0 then (j : Int) + x.length else j)).toNat x.length) with | some i => retInt i | none => (do rule "str.rfind.not-found"; retInt (-1))) _
    rw [hr]
    exact .rule (.of_eq rfl)
  | some a =>
    rw [hr] at key
    have h1 := key.1.1
    refine ⟨a, by split at h1 <;> omega, by omega, ?_⟩
    show Gives (match lastOccurrence x y (max 0 (if (i : Int) < 0 then (i : Int) + x.length else i)).toNat (min (max 0 (if (j : Int) < 0 then (j : Int) + x.length else j)).toNat x.length) with | some i => retInt i | none => (do rule "str.rfind.not-found"; retInt (-1))) _
    rw [hr]
    exact .of_eq rfl
end
theorem VMs.consI {mu : Addr → Prop} {h : Heap} {vs : List Value} {d : V} {ds : List V} (x : VMs mu h vs (d :: ds)) : ∃ v ws, vs = v :: ws ∧ VM mu h v d ∧ VMs mu h ws ds := by cases x with | cons a b => exact ⟨_, _, rfl, a, b⟩
theorem VMs.one {mu : Addr → Prop} {h : Heap} {vs : List Value} {d : V} (x : VMs mu h vs [d]) : ∃ v, vs = [v] ∧ VM mu h v d := by
  obtain ⟨v, ws, rfl, a, r⟩ := x.consI; cases r; exact ⟨v, rfl, a⟩
theorem VMs.two {mu : Addr → Prop} {h : Heap} {vs : List Value} {d e : V} (x : VMs mu h vs [d, e]) : ∃ v w, vs = [v, w] ∧ VM mu h v d ∧ VM mu h w e := by
  obtain ⟨v, ws, rfl, a, r⟩ := x.consI; obtain ⟨w, rfl, b⟩ := r.one; exact ⟨v, w, rfl, a, b⟩
theorem VMs.three {mu : Addr → Prop} {h : Heap} {vs : List Value} {d e f : V} (x : VMs mu h vs [d, e, f]) : ∃ v w u, vs = [v, w, u] ∧ VM mu h v d ∧ VM mu h w e ∧ VM mu h u f := by
  obtain ⟨v, ws, rfl, a, r⟩ := x.consI; obtain ⟨w, u, rfl, b, c⟩ := r.two; exact ⟨v, w, u, rfl, a, b, c⟩
theorem VMs.four {mu : Addr → Prop} {h : Heap} {vs : List Value} {d e f g : V} (x : VMs mu h vs [d, e, f, g]) : ∃ v w u z, vs = [v, w, u, z] ∧ VM mu h v d ∧ VM mu h w e ∧ VM mu h u f ∧ VM mu h z g := by
  obtain ⟨v, ws, rfl, a, r⟩ := x.consI; obtain ⟨w, u, z, rfl, b, c, e⟩ := r.three; exact ⟨v, w, u, z, rfl, a, b, c, e⟩
theorem gm_str {l : List Nat} {name : Str} {id : String} {Q : Value → List V → S → Prop} (slot : Slot "str" name id) (ty : typeOf (.builtin id) = pure (.type "method_descriptor")) (q : Q (.builtin id) [.str l] σ) : GetM X (.str l) name σ Q E := by
  intro v s pl st vm
  obtain ⟨t, rfl⟩ := vm.strI
  exact GM.of (.str _ t) (typeIs_str _ _ _) slot ty GM.noRef ⟨[.str l], σ, Post.refl st, .cons vm .nil, q⟩
section
variable {x y : List Nat} {Q : V → S → Prop}
theorem c_count4 {i j : Nat} (q : ∀ c : Nat, c ≤ x.length + 1 → Q (.int c) σ) : Call X (.builtin "str.count") [.str x, .str y, .int i, .int j] σ Q E := fun vs s st vm => by
  obtain ⟨_, _, _, _, rfl, a, b, c, d⟩ := vm.four
  obtain ⟨t, rfl⟩ := a.strI
  obtain ⟨u, rfl⟩ := b.strI
  obtain ⟨_, rfl⟩ := c.intI
  obtain ⟨_, rfl⟩ := d.intI
  obtain ⟨c, hc, g⟩ := gives_count4 ⟨x.toArray⟩ ⟨y.toArray⟩ i j t u _ _
  exact call_gives F.slot_str_count (typeIs_str _ _ _) F.entry_str_count (F.args_str_count_4 _ _ _ _) g (qw_same st _ (.int _ _) (q c (by simpa [Str.length] using hc)))
theorem c_rfind4 {i j : Nat} (hy : y ≠ []) (q : ∀ c : Int, c ≤ j → -1 ≤ c → Q (.int c) σ) : Call X (.builtin "str.rfind") [.str x, .str y, .int i, .int j] σ Q E := fun vs s st vm => by
  obtain ⟨_, _, _, _, rfl, a, b, c, d⟩ := vm.four
  obtain ⟨t, rfl⟩ := a.strI
  obtain ⟨u, rfl⟩ := b.strI
  obtain ⟨_, rfl⟩ := c.intI
  obtain ⟨_, rfl⟩ := d.intI
  obtain ⟨c, c1, c2, g⟩ := gives_rfind4 ⟨x.toArray⟩ ⟨y.toArray⟩ i j t u _ _ (by cases y with | nil => exact absurd rfl hy | cons _ _ => simp [Str.length])
  exact call_gives F.slot_str_rfind (typeIs_str _ _ _) F.entry_str_rfind (F.args_str_rfind_4 _ _ _ _) g (qw_same st _ (.int _ _) (q c c1 c2))
theorem c_isstr (q : Q (.bool true) σ) : Call X (.builtin "isinstance") [.str x, .lit (.type "str")] σ Q E := fun vs s st vm => by
  obtain ⟨_, _, rfl, a, b⟩ := vm.two
  obtain ⟨t, rfl⟩ := a.strI
  obtain rfl := b.litI
  exact call_isinstance_yes (typeIs_str _ _ _) (by kernel_rfl) (by rw [isSubtype_type]; kernel_rfl) (qw_self st (.bool _) q)
theorem c_lens (h : x.length ≤ 10000) (q : Q (.int x.length) σ) : Call X (.builtin "len") [.str x] σ Q E := fun vs s st vm => by
  obtain ⟨_, rfl, a⟩ := vm.one
  obtain ⟨t, rfl⟩ := a.strI
  refine PyProof.Rows.len_str (by simp only [Str.length, List.size_toArray]; omega) (qw_same st _ ?_ q)
  have : ((⟨x.toArray⟩ : Str).length) = x.length := by simp [Str.length]
  rw [this]; exact .int _ _
theorem o_ins (q : ∀ b, Q (.bool b) σ) : Op2 X (compareOp .In) (.str y) (.str x) σ Q E := fun _ _ _ st va wb => by
  obtain ⟨t, rfl⟩ := va.strI
  obtain ⟨u, rfl⟩ := wb.strI
  exact PyProof.Rows.in_str (qw_self st (.bool _) (q _))
end
end
end Mine
namespace Mine
open PySem PySem.W PySem.Calls PySem.Spec PyProof.Rows
section
variable {X : Cx} {n : Nat} {σ : S} {E : Value → S → Prop}
set_option maxHeartbeats 8000000 in
theorem meets_pos (y : Str) (hy : y.length ≤ 1000000) (i : Int) (h0 : 0 ≤ i) (h1 : i < 10 ^ 10) (t u v : Tok) (b : Addr) :
    Meets (Builtin.«str.__mod__» ⟨[.str "%s at position %d" t, .ref b], []⟩) (fun _ R s => IsTup s.heap b #[.str y u, .int i v] ∧ ∀ t' k, R (.ok (.ret (.str (y ++ Str.ofString " at position " ++ Str.ofString (toString i)) t'))) { s with toks := k }) := by
  have hd : i.natAbs.log2 < 1920 := shown (N := 2 ^ 1920) (by omega) (by omega) (Int.le_refl _)
  apply KPt.meets_tup
  intro _ _ _ _ _ _ kptH _
  obtain ⟨kptO, kptG, kptC, kptN, kptD⟩ := kptH
  rw [KPt.entry_is_r]
  unfold Builtin.Str.percentFormat
  refine wpAny_bind (wpAny_isInstance (T := "tuple") ⟨kptO, kptG, kptC⟩ KPt.sub_tt ?_)
  refine wpAny_bind (KPt.asStr_ref kptG kptD ?_)
  refine wpAny_bind (KPt.fills_ref ⟨kptO, kptG, kptC⟩ ?_)
  intro _
  kpc_if
  refine wpAny_bind (wpAny_seqItems kptG kptD ?_)
  refine wpAny_bind (wpAny_pure ?_)
  refine wpAny_bind ?_
  rw [KPc.range_list]
  refine KPc.start ?_
  intro _ _
  refine KPc.turn ?_; kpc_check; (repeat kpc_if); refine wpAny_bind ?_; refine wpAny_holding ?_; (repeat kpc_if); kpt_conv; refine wpAny_pure ?_; refine wpAny_pure ?_; kpt_piece
  refine KPc.turn ?_; kpc_check; (repeat kpc_if); refine wpAny_pure ?_; refine KPc.after_add (y := Str.ofString " at position ") (by kpc_g) (by kernel_rfl) (by kpc_obj) ?_; intro _ _
  refine KPc.turn ?_; kpc_check; (repeat kpc_if); refine wpAny_bind ?_; refine wpAny_holding ?_; (repeat kpc_if); kpt_conv; refine wpAny_pure ?_; refine wpAny_pure ?_; kpt_piece
  refine KPc.turn ?_; kpc_check; (repeat kpc_if); kpc_close
set_option maxHeartbeats 8000000 in
theorem meets_line (y : Str) (hy : y.length ≤ 1000000) (i j : Int) (h0 : 0 ≤ i) (h1 : i < 10 ^ 10) (h2 : 0 ≤ j) (h3 : j < 10 ^ 10) (t u v w : Tok) (b : Addr) : ∃ T,
    Meets (Builtin.«str.__mod__» ⟨[.str "%s (line %d, column %d)" t, .ref b], []⟩) (fun _ R s => IsTup s.heap b #[.str y u, .int i v, .int j w] ∧ ∀ t' k, R (.ok (.ret (.str T t'))) { s with toks := k }) := by
  have hd : i.natAbs.log2 < 1920 := shown (N := 2 ^ 1920) (by omega) (by omega) (Int.le_refl _)
  have hd2 : j.natAbs.log2 < 1920 := shown (N := 2 ^ 1920) (by omega) (by omega) (Int.le_refl _)
  refine ⟨y ++ Str.ofString " (line " ++ Str.ofString (toString i) ++ Str.ofString ", column " ++ Str.ofString (toString j) ++ Str.ofString ")", ?_⟩
  apply KPt.meets_tup
  intro _ _ _ _ _ _ kptH _
  obtain ⟨kptO, kptG, kptC, kptN, kptD⟩ := kptH
  rw [KPt.entry_is_r]
  unfold Builtin.Str.percentFormat
  refine wpAny_bind (wpAny_isInstance (T := "tuple") ⟨kptO, kptG, kptC⟩ KPt.sub_tt ?_)
  refine wpAny_bind (KPt.asStr_ref kptG kptD ?_)
  refine wpAny_bind (KPt.fills_ref ⟨kptO, kptG, kptC⟩ ?_)
  intro _
  kpc_if
  refine wpAny_bind (wpAny_seqItems kptG kptD ?_)
  refine wpAny_bind (wpAny_pure ?_)
  refine wpAny_bind ?_
  rw [KPc.range_list]
  refine KPc.start ?_
  intro _ _
  refine KPc.turn ?_; kpc_check; (repeat kpc_if); refine wpAny_bind ?_; refine wpAny_holding ?_; (repeat kpc_if); kpt_conv; refine wpAny_pure ?_; refine wpAny_pure ?_; kpt_piece
  refine KPc.turn ?_; kpc_check; (repeat kpc_if); refine wpAny_pure ?_; refine KPc.after_add (y := Str.ofString " (line ") (by kpc_g) (by kernel_rfl) (by kpc_obj) ?_; intro _ _
  refine KPc.turn ?_; kpc_check; (repeat kpc_if); refine wpAny_bind ?_; refine wpAny_holding ?_; (repeat kpc_if); kpt_conv; refine wpAny_pure ?_; refine wpAny_pure ?_; kpt_piece
  refine KPc.turn ?_; kpc_check; (repeat kpc_if); refine wpAny_pure ?_; refine KPc.after_add (y := Str.ofString ", column ") (by kpc_g) (by kernel_rfl) (by kpc_obj) ?_; intro _ _
  refine KPc.turn ?_; kpc_check; (repeat kpc_if); refine wpAny_bind ?_; refine wpAny_holding ?_; (repeat kpc_if); kpt_conv; refine wpAny_pure ?_; refine wpAny_pure ?_; kpt_piece
  refine KPc.turn ?_; kpc_check; (repeat kpc_if); refine wpAny_pure ?_; refine KPc.after_add (y := Str.ofString ")") (by kpc_g) (by kernel_rfl) (by kpc_obj) ?_; intro _ _
  refine KPc.turn ?_; kpc_check; (repeat kpc_if); kpc_close
theorem pct_pos {x : List Nat} {f : Str} {i : Int} {Q : V → S → Prop} (hf : f = "%s at position %d") (hx : x.length ≤ 10000) (h0 : 0 ≤ i) (h1 : i < 10 ^ 10) (q : ∀ y, y.length ≤ 20000 → Q (.str y) σ) : Op2 X (binaryOp .Mod) (.str f.cps.toList) (.tup [.str x, .int i]) σ Q E := by
  subst hf
  intro a b s st va vb
  obtain ⟨t, rfl⟩ := va.strI
  obtain ⟨b, o, vs, n, rfl, g, c, d, _, vm⟩ := vb.tupI
  obtain ⟨v, w, rfl, v1, v2⟩ := vm.two
  obtain ⟨u, rfl⟩ := v1.strI
  obtain ⟨tk, rfl⟩ := v2.intI
  have ht : IsTup s.heap b #[.str ⟨x.toArray⟩ u, .int i tk] := ⟨o, g, c, n, d⟩
  have hlen : (⟨x.toArray⟩ : Str).length ≤ 10000 := by simpa [Str.length] using hx
  have ef : (⟨(Str.ofString "%s at position %d").cps.toList.toArray⟩ : Str) = Str.ofString "%s at position %d" := congrArg PySem.Str.mk (Array.toArray_toList ..)
  rw [ef]
  refine KPt.bin_left (T := "str") (U := "tuple") (op := .Mod) (by decide) (typeIs_str _ _ _) ⟨o, g, c⟩ F.fills_str_mod KPt.fills_tuple F.slot_str_mod
    (call_meets F.slot_str_mod (typeIs_str _ _ _) F.entry_str_mod (F.args_str_mod_2 _ _) (meets_pos ⟨x.toArray⟩ (by omega) i h0 h1 t u tk b) ⟨ht, fun t' k => ⟨(fun e => nomatch e), ?_⟩⟩)
  refine qw_same st _ (.str _ _) (q _ ?_)
  have l1 : (Str.ofString " at position ").length = 13 := by decide +kernel
  have l2 := toString_length_le (v := i) h0 (k := 10) (by decide) h1
  have e : ((⟨x.toArray⟩ : Str) ++ Str.ofString " at position " ++ Str.ofString (toString i)).cps.toList.length = ((⟨x.toArray⟩ : Str) ++ Str.ofString " at position " ++ Str.ofString (toString i)).length := by rw [Array.length_toList]; rfl
  rw [e, PySem.Str.length_append, PySem.Str.length_append]
  omega
theorem pct_line {x : List Nat} {f : Str} {i j : Int} {Q : V → S → Prop} (hf : f = "%s (line %d, column %d)") (hx : x.length ≤ 20000) (h0 : 0 ≤ i) (h1 : i < 10 ^ 10) (h2 : 0 ≤ j) (h3 : j < 10 ^ 10) (q : ∀ y, Q (.str y) σ) : Op2 X (binaryOp .Mod) (.str f.cps.toList) (.tup [.str x, .int i, .int j]) σ Q E := by
  subst hf
  intro a b s st va vb
  obtain ⟨t, rfl⟩ := va.strI
  obtain ⟨b, o, vs, n, rfl, g, c, d, _, vm⟩ := vb.tupI
  obtain ⟨v, w, z, rfl, v1, v2, v3⟩ := vm.three
  obtain ⟨u, rfl⟩ := v1.strI
  obtain ⟨tk, rfl⟩ := v2.intI
  obtain ⟨tl, rfl⟩ := v3.intI
  have ht : IsTup s.heap b #[.str ⟨x.toArray⟩ u, .int i tk, .int j tl] := ⟨o, g, c, n, d⟩
  have hlen : (⟨x.toArray⟩ : Str).length ≤ 20000 := by simpa [Str.length] using hx
  have ef : (⟨(Str.ofString "%s (line %d, column %d)").cps.toList.toArray⟩ : Str) = Str.ofString "%s (line %d, column %d)" := congrArg PySem.Str.mk (Array.toArray_toList ..)
  rw [ef]
  obtain ⟨T, hm⟩ := meets_line ⟨x.toArray⟩ (by omega) i j h0 h1 h2 h3 t u tk tl b
  refine KPt.bin_left (T := "str") (U := "tuple") (op := .Mod) (by decide) (typeIs_str _ _ _) ⟨o, g, c⟩ F.fills_str_mod KPt.fills_tuple F.slot_str_mod
    (call_meets F.slot_str_mod (typeIs_str _ _ _) F.entry_str_mod (F.args_str_mod_2 _ _) hm ⟨ht, fun t' k => ⟨(fun e => nomatch e), ?_⟩⟩)
  exact qw_same st _ (.str _ _) (q _)
end
end Mine
namespace Mine
open PySem PySem.W PySem.Calls PySem.Spec PyProof.Rows
section
variable {X : Cx} {n : Nat} {σ : S} {E : Value → S → Prop}
structure KExcGet (K : Frag) (C : Addr) (name : Str) : Prop where
  ga : findIn K (.ref C) "__getattribute__" = some (some (.builtin "BaseException.__getattribute__"))
  hook : findIn K (.ref C) "__getattr__" = some none
  base : mroIn K C (.type "BaseException") = some true
  dict : hasDictIn K C = true
  cls : ∃ attr, findIn K (.ref C) name = some attr ∧ noGet K attr = true
theorem bind_bexc_ga (self : Value) : bindSpecial (.builtin "BaseException.__getattribute__") self = pure (.builtin "BaseException.__getattribute__", [self]) := F.attr_Exception.ga.bind self
theorem get_exc_at {prog : Program} {w : World} {A : Around} {E : Value → Shared → Prop} {s : Shared} {K : Frag} {x C : Addr} {ox : Obj} {od : Option Obj} {name : Str} {expr : Bool} {v : Value} {Q : Value → Shared → Prop} (X : K.In s.heap) (I : InstAt s.heap x ox C od)
    (kg : findIn K (.ref C) "__getattribute__" = some (some (.builtin "BaseException.__getattribute__"))) (kh : findIn K (.ref C) "__getattr__" = some none) (kb : mroIn K C (.type "BaseException") = some true)
    (hf : findObj K C od name = some (.value v)) (hh : handedIn v = true) (h : Q v { s with toks := s.toks + 1 }) : wpAny (model prog w) A (getAttr (.ref x) name expr) Q E s := by
  obtain ⟨hh', g, d, t, os⟩ := s
  have L0 := I.type (M := model prog w)
  have L1 := looks_findIn (M := model prog w) X kg
  have L2 := looks_findIn (M := model prog w) X kh
  have L3 := looks_find (M := model prog w) X I hf
  have sub : Looks (model prog w) hh' (isInstance (.ref x) (.type "BaseException")) true := L0.andThen (looks_mroIn X kb)
  unfold getAttr getAttrBy
  refine wpAny_bind (wpAny_mkText (wpAny_holding (wpAny_bind (L0.at (wpAny_bind (L1.at ?_))))))
  have e : (onTheHeap (.ref C) && (Value.builtin "BaseException.__getattribute__" == Value.builtin "object.__getattribute__")) = false := by rw [Bool.and_eq_false_iff]; exact .inr (by decide +kernel)
  dsimp only
  rw [e]
  simp only [Bool.false_eq_true, if_false]
  unfold getAttrByItsOwn hookBefore callGetattribute boundAndCalled
  refine wpAny_bind (L2.at ?_)
  have e2 : (expr && onTheHeap (Value.builtin "BaseException.__getattribute__")) = false := by cases expr <;> rfl
  rw [e2]
  simp only [Bool.false_eq_true, if_false]
  refine wpAny_bind (wpAny_attempt (wpAny_holding ?_))
  refine wpAny_bind (wpAny_of_eq (bind_bexc_ga _) ?_)
  refine wpAny_call (codeAny_call_builtin (by decide +kernel) F.entry_bexc_ga (@check_slot (model prog w) _ _ _ "BaseException.__getattribute__" "BaseException" "__getattribute__" (.ref x) [.str name t] [] _ (by decide +kernel) (by decide +kernel) sub (F.args_bexc_ga _ _) ?_))
  unfold Builtin.«object.__getattribute__»
  refine wpAny_bind (wpAny_pure (wpAny_bind (wpAny_pure (wpAny_bind (L0.at (wpAny_bind (L3.at ?_)))))))
  refine wpAny_pure ?_
  show wpAny _ _ (handedOut v) _ _ _
  rw [handedOut_of hh]
  exact wpAny_pure h
theorem getf_exc {a C d : Addr} {fs : List (Str × V)} {name : Str} {dv : V} {ex : Bool} {Q : V → S → Prop} (ok : Ok X n) (h1 : σ.hp a = some (.exc C (some d))) (h2 : σ.hp d = some (.dict fs)) (kg : KExcGet X.K C name)
    (hd : lk fs name = some dv) (hl : ∀ w, dv ≠ .lit w) (q : Q dv σ) : Op1 X (fun v => getAttr v name ex) (.ref a) σ Q E := by
  intro v s st vm
  obtain rfl := vm.refI
  obtain ⟨⟨vs, a0, g1, v0, v1, v6⟩, _⟩ := st.own a _ h1
  obtain ⟨⟨es, k, g2, en, _⟩, _⟩ := st.own d _ h2
  obtain ⟨w, e, wm⟩ := en.getL.1 dv hd
  obtain ⟨attr, c1, c2⟩ := kg.cls
  exact get_exc_at (od := some (dictOf es k)) (st.inK ok) ⟨g1, rfl, rfl, g2⟩ kg.ga kg.hook kg.base (findObj_own kg.dict c1 c2 e) (wm.handed hl) (qw_same st _ wm q)
noncomputable def SetA (X : Cx) (o : V) (attr : Str) (d : V) (σ : S) (Q : S → Prop) (E : Value → S → Prop) : Prop :=
  ∀ ov v s, St X σ s.heap → VM σ.mu s.heap ov o → VM σ.mu s.heap v d → wpAny (model X.prog X.w) X.A (setAttr ov attr v) (Qw X σ s RU (fun _ => Q)) (Ew X σ s E) s
theorem sa_inst {a C dx : Addr} {fs : List (Str × V)} {name : Str} {d : V} {Q : S → Prop} (ok : Ok X n) (h1 : σ.hp a = some (.inst C dx)) (h2 : σ.hp dx = some (.dict fs)) (ks : KSet X.K C name)
    (hlen : fs.length ≤ 90) (q : Q { σ with hp := upd σ.hp dx (.dict (updF fs name d)) }) : SetA X (.ref a) name d σ Q E := fun _ _ _ st om vm => by
  cases om
  exact set_field (Q := fun _ => Q) ok h1 h2 ks hlen q (Post.refl st) vm
theorem sa_exc1 {a C dx : Addr} {fs : List (Str × V)} {name : Str} {d : V} {Q : S → Prop} (ok : Ok X n) (h1 : σ.hp a = some (.exc C (some dx))) (h2 : σ.hp dx = some (.dict fs)) (ks : KExcSet X.K C name)
    (hlen : fs.length ≤ 90) (q : Q { σ with hp := upd σ.hp dx (.dict (updF fs name d)) }) : SetA X (.ref a) name d σ Q E := fun _ _ _ st om vm => by
  cases om
  exact set_exc1 (Q := fun _ => Q) ok h1 h2 ks hlen q (Post.refl st) vm
theorem sa_exc0 {a C : Addr} {name : Str} {d : V} {Q : S → Prop} (ok : Ok X n) (h1 : σ.hp a = some (.exc C none)) (ks : KExcSet X.K C name)
    (q : ∀ dx, σ.hp dx = none → Q { σ with hp := upd (upd σ.hp a (.exc C (some dx))) dx (.dict [(name, d)]) }) : SetA X (.ref a) name d σ Q E := fun _ _ _ st om vm => by
  cases om
  exact set_exc0 (Q := fun _ => Q) ok h1 ks q (Post.refl st) vm
theorem WX_SetAttr {e : Expr} {x attr : Str} {xp p' pos : Pos} {Q : FV → S → Prop}
    (h : WE X e σ (fun d σ₁ => WE X (.Name x xp) σ₁ (fun od σ₂ => SetA X od attr d σ₂ (Q .next) E) E) E)
    (hs : ∀ env, swapsWith e (some (.Attribute (.Name x xp) attr p')) pos.line env = pure false) : WX X (.Assign [.Attribute (.Name x xp) attr p'] e pos) σ Q E := fun _ st =>
  plainObj_wpAny_Assign_Attribute (h.run (Post.refl st) fun v s₁ d σ₁ _ P₁ vm h₁ => h₁.run P₁ fun ov s₂ od σ₂ p₂ P₂ om h₂ =>
    wpAny_mono (h₂ ov v s₂ P₂.st om (vm.mono p₂.ext)) (fun _ _ ⟨_, σ', P', _, q'⟩ => ⟨.next, σ', P₂.trans P', trivial, q'⟩) fun _ _ e => e.after P₂) (hs _)
noncomputable def WAt {α β : Type} (X : Cx) (body : List Stmt) (t : Sem α) (R : (Addr → Prop) → Heap → α → β → Prop) (σ : S) (Q : β → S → Prop) (E : Value → S → Prop) : Prop :=
  ∀ s, St X σ s.heap → PySem.wpAt (model X.prog X.w) X.A (.func body X.env) t (Qw X σ s R Q) (Ew X σ s E) s
theorem WAt.hide {α β : Type} {body : List Stmt} {t : Sem α} {R : (Addr → Prop) → Heap → α → β → Prop} {Q : β → S → Prop} (h : ∀ Q' E', (∀ b σ', Q b σ' → Q' b σ') → (∀ c σ', E c σ' → E' c σ') → WAt X body t R σ Q' E') : WAt X body t R σ Q E := h Q E (fun _ _ q => q) fun _ _ q => q
theorem WAt_cons {body : List Stmt} {st : Stmt} {rest : List Stmt} {Q : FV → S → Prop} (h : WX X st σ (fun f σ₁ => match f with | .next => WAt X body (execs rest X.env) FM σ₁ Q E | f => Q f σ₁) E) : WAt X body (execs (st :: rest) X.env) FM σ Q E := fun _ sst =>
  ks_wpAt_execs_cons (PySem.wpAt_of_wpAny (h.run (Post.refl sst) fun f s₁ g σ₁ _ P₁ r q => by
    cases f <;> cases g <;> first | exact r.elim | exact ks_wpAt_mono (q s₁ P₁.st) (fun _ _ z => z.after P₁) (fun _ _ z => z.after P₁) | exact ⟨_, _, P₁, r, q⟩))
theorem WAt_last {body : List Stmt} {st : Stmt} {Q : FV → S → Prop} (h : WAt X body (exec st X.env) FM σ Q E) : WAt X body (execs [st] X.env) FM σ Q E := fun s sst =>
  ks_wpAt_execs_cons (ks_wpAt_mono (h s sst) (fun f s₁ z => by
    obtain ⟨g, σ₁, P₁, r, q⟩ := z
    cases f <;> cases g <;> first | exact r.elim | exact PySem.wpAt_of_wpAny (wpAny_execs_nil (⟨FV.next, σ₁, P₁, trivial, q⟩ : Qw X σ s FM Q Flow.next s₁)) | exact ⟨_, _, P₁, r, q⟩) fun _ _ z => z)
theorem code_fnAt {fd : FuncData} {f : Addr} {body : List Stmt} {A' : Around} {R : Result → Shared → Prop} {s : Shared} {args : Args} {binds : List (Str × Value)} {loc0 : List (Str × V)} {Qb : FV → S → Prop} {Eb : Value → S → Prop}
    (ok : Ok X (n + 1)) (hf : FnIs X.K f fd body) (hA : Under X A') (st : St X σ s.heap) (hb : BindsTo s fd args binds) (hl : ∀ y ∈ binds, fd.scope.names.lookup y.1 = some .local)
    (hm : ∀ x d, lk loc0 x = some d → ∃ v, binds.reverse.lookup x = some v ∧ VM σ.mu s.heap v d)
    (h : ∀ L, Ok (X.into A' fd f L) n → WAt (X.into A' fd f L) body (execs body (X.into A' fd f L).env) FM ⟨loc0, σ.hp⟩ Qb Eb)
    (ret : ∀ v s' fl σ', Post X σ s ⟨σ.loc, σ'.hp⟩ s' → VM σ'.mu s'.heap v (retV fl) → Qb fl σ' → R (.ok (.ret v)) s')
    (exc : ∀ e s' cls σ', Post X σ s ⟨σ.loc, σ'.hp⟩ s' → ExcAt X σ'.mu s'.heap e cls → Eb cls σ' → R (.error (.ref e)) s') : codeAny (model X.prog X.w) A' (.call (.ref f) args) R s := by
  obtain ⟨oc, od, osl, hat⟩ := hf.at_
  have inK := ok.inK.keeps st.base
  have hroom : A'.depth < recursionLimit := by have := ok.depth; have := hA.depth; omega
  refine ks_codeAny_call_defAt (fd := fd) (body := body) (binds := binds) hroom (inK _ _ hat) rfl (ok.top.nolimit.keeps st.base) (codeRec_of inK hf.code) hf.body hb hf.cell hl (fun h₀ hn hk => ?_) hf.co hf.gen hf.kind
  have bL : X.base.objs.size ≤ s.heap.objs.size := by
    obtain ⟨m, hn, _⟩ := st.names
    exact Nat.le_trans ok.above (Nat.le_of_lt hn.lt)
  have pL : s.heap.objs.size ∉ X.prot := fun hp => by
    obtain ⟨_, o, vs, g, _⟩ := st.prot _ hp
    exact absurd (Heap.lt_size g) (Nat.lt_irrefl _)
  have ok' := ok_into (L := s.heap.objs.size) ok hf hA bL pL
  have st' := enter (A' := A') hf st hn hk hm
  refine ks_wpAt_mono (h s.heap.objs.size ok' { s with heap := h₀, toks := s.toks + binds.length } st') (fun fl s' q => ?_) fun e s' q => ?_
  · obtain ⟨g, σ', P, r, q⟩ := q
    have P' := post_back st hk P
    refine ret _ s' g σ' P' ?_ q
    cases fl <;> cases g <;> first | exact r.elim | exact VM.none | exact r
  · obtain ⟨ea, cls, σ', P, rfl, x, q⟩ := q
    refine leave_any ok' rfl P.st x fun h' P₂ x₂ => ?_
    have P' := post_back st hk (P.trans P₂)
    refine exc ea _ cls σ' P' ?_ q
    obtain ⟨a, b, oe, vs, a0, T, oT, ts, g, c, d, v0, v1, bT, pT, ne, gT, dT, v3⟩ := x₂
    exact ⟨a, b, oe, vs, a0, g, c, d, v0, .inr ⟨T, oT, ts, v1, bT, pT, ne, gT, dT, .inl v3⟩⟩
end
end Mine
namespace Mine
open PySem PySem.W PySem.Calls PySem.Spec PyProof.Rows
section
variable {X : Cx} {n : Nat} {σ : S} {E : Value → S → Prop}
theorem under_tc (X : Cx) (C : Addr) (rest : List Value) : Under X (X.A.under (.builtin "type.__call__" ⟨.ref C :: rest, []⟩)) where
  frames := by
    show pushEnvs (Code.envs (.builtin "type.__call__" ⟨.ref C :: rest, []⟩)) X.A.frames = X.A.frames
    have e : Code.envs (.builtin "type.__call__" ⟨.ref C :: rest, []⟩) = [] := rfl
    rw [e]; rfl
  depth := by
    show X.A.depth + Code.weight (.builtin "type.__call__" ⟨.ref C :: rest, []⟩) ≤ _
    have e : Code.weight (.builtin "type.__call__" ⟨.ref C :: rest, []⟩) = 1 := rfl
    omega
  units := by
    show X.A.units + Code.cUnits (.builtin "type.__call__" ⟨.ref C :: rest, []⟩) ≤ _
    have e : Code.cUnits (.builtin "type.__call__" ⟨.ref C :: rest, []⟩) = 1 := rfl
    omega
  handled := rfl
structure KMakeExc (K : Frag) (C fI : Addr) : Prop where
  call : specialIn K (.ref C) "__call__" = some (some (.builtin "type.__call__"))
  type : instIn K (.ref C) (.type "type") = some true
  self : subIn K (.ref C) (.ref C) = some true
  init : findIn K (.ref C) "__init__" = some (some (.ref fI))
  fn : typeIn K (.ref fI) = some (.type "function")
theorem Call.exc {fI C : Addr} {fd : FuncData} {body : List Stmt} {ds : List V} {loc0 : Addr → List (Str × V)} {Q : V → S → Prop}
    {nm qn : Str} {N : Addr} {bs bm : List Value} {hdct : Bool} {sn : List Str} {sub : List Value} {ab : Bool} {col : Option Bool} {dd : Option Addr} {k0 k1 k2 k3 k5 : Option Value} {B newId initId : String}
    (FB : ExcBaseFacts B newId initId bm) (ok : Ok X (n + 1)) (hC : X.K.lookup C = some (excClassObj nm qn C N bs bm hdct sn sub ab col dd k0 k1 k2 k3 k5 newId)) (km : KMakeExc X.K C fI) (hf : FnIs X.K fI fd body) (hlen : ds.length ≤ 100)
    (hb : ∀ a vs s (mu : Addr → Prop), X.K.In s.heap → VMs mu s.heap vs (.ref a :: ds) → ∃ binds, BindsTo s fd ⟨vs, []⟩ binds ∧ (∀ y ∈ binds, fd.scope.names.lookup y.1 = some .local) ∧ (∀ x d, lk (loc0 a) x = some d → ∃ v, binds.reverse.lookup x = some v ∧ VM mu s.heap v d))
    (h : ∀ A' a L, Under X A' → σ.hp a = none → Ok (X.into A' fd fI L) n → WAt (X.into A' fd fI L) body (execs body (X.into A' fd fI L).env) FM ⟨loc0 a, upd σ.hp a (.exc C none)⟩ (fun fl σ' => retV fl = .none ∧ Q (.ref a) ⟨σ.loc, σ'.hp⟩) (fun c σ' => E c ⟨σ.loc, σ'.hp⟩)) : Call X (.ref C) ds σ Q E := by
  intro vs s st vm
  obtain ⟨hh, gn, dr, tk, os⟩ := s
  have inK := st.inK ok
  have hC' := inK _ _ hC
  have P₁ := st_push st { cls := .type "tuple", data := .seq vs.toArray }
  have nn := new_none P₁.st
  have P₂ := post_write (h' := (hh.push { cls := .type "tuple", data := .seq vs.toArray }).push { cls := .ref C, data := .fields #[.ref hh.objs.size, .none, .none, .none, .bool false, .none] }) (tk := tk) (a := hh.objs.size + 1) (o := .exc C none) ok P₁.st
    (fun b o _ _ e => Heap.get?_push_of_some _ e) (by obtain ⟨m, hn, hm⟩ := P₁.st.names; exact ⟨m, hn.push _, hm⟩) (.inr (by have := Heap.get?_none_of_le (h := hh.push { cls := .type "tuple", data := .seq vs.toArray }) (Nat.le_refl _); rwa [Heap.size_push] at this))
    fun _ _ _ => ⟨_, _, by heap_get, rfl, rfl, rfl⟩
  have PP := P₁.trans P₂
  refine wpAny_call (exc_core FB hC' (looks_specialIn inK km.call) (looks_instIn inK km.type) (looks_subIn inK km.self) (looks_findIn inK km.init) (fun self => bind_fn inK self km.fn) (by rw [vm.length, sizeLine_eq]; omega) ?_)
  have vm' : VMs (S.mu { σ with hp := upd σ.hp (hh.objs.size + 1) (.exc C none) }) ((hh.push { cls := .type "tuple", data := .seq vs.toArray }).push { cls := .ref C, data := .fields #[.ref hh.objs.size, .none, .none, .none, .bool false, .none] }) (.ref (hh.objs.size + 1) :: vs) (.ref (hh.objs.size + 1) :: ds) := .cons (.ref _) (vm.mono PP.ext)
  obtain ⟨binds, b1, b2, b3⟩ := hb (hh.objs.size + 1) _ ⟨(hh.push { cls := .type "tuple", data := .seq vs.toArray }).push { cls := .ref C, data := .fields #[.ref hh.objs.size, .none, .none, .none, .bool false, .none] }, gn, dr, tk, os⟩ _ (P₂.st.inK ok) vm'
  refine code_fnAt (σ := { σ with hp := upd σ.hp (hh.objs.size + 1) (.exc C none) }) ok hf (under_tc X C vs) P₂.st b1 b2 b3 (fun L ok' => h _ _ L (under_tc X C vs) (by rw [Heap.size_push] at nn; exact nn) ok') (fun v s' fl σ' P r q => ?_) fun e s' cls σ' P x q => ?_
  · rw [q.1] at r
    cases r
    exact ⟨rfl, .ref _, _, PP.trans P, .ref _, q.2⟩
  · exact ⟨e, cls, _, PP.trans P, rfl, x, q⟩
structure KMake (K : Frag) (C fI : Addr) : Prop where
  makes : makesIn K C = true
  init : findIn K (.ref C) "__init__" = some (some (.ref fI))
  fn : typeIn K (.ref fI) = some (.type "function")
theorem Call.make {fI C : Addr} {fd : FuncData} {body : List Stmt} {ds : List V} {loc0 : Addr → List (Str × V)} {Q : V → S → Prop}
    (ok : Ok X (n + 1)) (km : KMake X.K C fI) (hf : FnIs X.K fI fd body)
    (hb : ∀ a vs s (mu : Addr → Prop), X.K.In s.heap → VMs mu s.heap vs (.ref a :: ds) → ∃ binds, BindsTo s fd ⟨vs, []⟩ binds ∧ (∀ y ∈ binds, fd.scope.names.lookup y.1 = some .local) ∧ (∀ x d, lk (loc0 a) x = some d → ∃ v, binds.reverse.lookup x = some v ∧ VM mu s.heap v d))
    (h : ∀ A' a dx L, Under X A' → σ.hp a = none → σ.hp dx = none → a ≠ dx → Ok (X.into A' fd fI L) n → WXs (X.into A' fd fI L) body ⟨loc0 a, upd (upd σ.hp dx (.dict [])) a (.inst C dx)⟩ (fun fl σ' => retV fl = .none ∧ Q (.ref a) ⟨σ.loc, σ'.hp⟩) (fun c σ' => E c ⟨σ.loc, σ'.hp⟩)) : Call X (.ref C) ds σ Q E := by
  intro vs s st vm
  obtain ⟨hh, gn, dr, tk, os⟩ := s
  have inK := st.inK ok
  have n0 := new_none st
  have P₁ := post_write (h' := hh.push emptyDict) (tk := tk) (a := hh.objs.size) (o := .dict []) ok st (fun b o _ _ e => Heap.get?_push_of_some _ e) (by obtain ⟨m, hn, hm⟩ := st.names; exact ⟨m, hn.push _, hm⟩) (.inr (Heap.get?_none_of_le (Nat.le_refl _)))
    fun _ _ _ => ⟨[], 0, Heap.get?_push_size _ rfl, .nil, by decide⟩
  have nn := new_none P₁.st
  have P₂ := post_write (h' := (hh.push emptyDict).push (instObj C hh.objs.size)) (tk := tk) (a := hh.objs.size + 1) (o := .inst C hh.objs.size) ok P₁.st
    (fun b o _ _ e => Heap.get?_push_of_some _ e) (by obtain ⟨m, hn, hm⟩ := P₁.st.names; exact ⟨m, hn.push _, hm⟩) (.inr (by have := Heap.get?_none_of_le (h := hh.push emptyDict) (Nat.le_refl _); rwa [Heap.size_push] at this))
    fun _ _ _ => (by show Heap.get? _ _ = _; heap_get)
  have PP := P₁.trans P₂
  refine wpAny_call (make_core (makes_of inK km.makes) (looks_findIn inK km.init) (fun self => bind_fn inK self km.fn) (.inl rfl) ?_)
  have vm' : VMs (S.mu { σ with hp := upd (upd σ.hp hh.objs.size (.dict [])) (hh.objs.size + 1) (.inst C hh.objs.size) }) ((hh.push emptyDict).push (instObj C hh.objs.size)) (.ref (hh.objs.size + 1) :: vs) (.ref (hh.objs.size + 1) :: ds) := .cons (.ref _) (vm.mono PP.ext)
  obtain ⟨binds, b1, b2, b3⟩ := hb (hh.objs.size + 1) _ ⟨(hh.push emptyDict).push (instObj C hh.objs.size), gn, dr, tk, os⟩ _ (P₂.st.inK ok) vm'
  have nn' : σ.hp (hh.objs.size + 1) = none := by
    rw [Heap.size_push] at nn
    have : upd σ.hp hh.objs.size (.dict []) (hh.objs.size + 1) = none := nn
    rwa [upd_ne (Nat.succ_ne_self _)] at this
  refine code_fn (σ := { σ with hp := upd (upd σ.hp hh.objs.size (.dict [])) (hh.objs.size + 1) (.inst C hh.objs.size) }) ok hf (under_tc X C vs) P₂.st b1 b2 b3 (fun L ok' => h _ _ _ L (under_tc X C vs) nn' n0 (Nat.succ_ne_self _) ok') (fun v s' fl σ' P r q => ?_) fun e s' cls σ' P x q => ?_
  · rw [q.1] at r
    cases r
    exact ⟨rfl, .ref _, _, PP.trans P, .ref _, q.2⟩
  · exact ⟨e, cls, _, PP.trans P, rfl, x, q⟩
end
end Mine
namespace Mine
open PySem PySem.W PySem.Calls PySem.Spec PyProof.Rows
section
variable {X : Cx} {n : Nat} {σ : S} {E : Value → S → Prop}
noncomputable def slc {α : Type} (l : List α) (lo hi : Option Int) : List α := (l.drop (kms_lo lo l.length)).take (kms_hi hi l.length - kms_lo lo l.length)
theorem clamp_neg {x : Int} {n : Nat} (h : x < 0) : max 0 (min (x + n) n) = ((n - (-x).toNat : Nat) : Int) := by
  obtain ⟨k, rfl⟩ : ∃ k : Nat, x = -(k : Int) := ⟨(-x).toNat, by rw [Int.toNat_of_nonneg (Int.neg_nonneg_of_nonpos (Int.le_of_lt h)), Int.neg_neg]⟩
  rw [Int.neg_neg, Int.toNat_natCast, ← Int.toNat_sub, Int.toNat_eq_max, Int.min_eq_left (by omega), Int.max_comm, Int.add_comm]; rfl
theorem clamp_pos {x : Int} {n : Nat} (h : ¬ x < 0) : max 0 (min x n) = ((min x.toNat n : Nat) : Int) := by
  obtain ⟨k, rfl⟩ := Int.eq_ofNat_of_zero_le (Int.not_lt.mp h)
  rw [Int.toNat_natCast]
  rcases Nat.le_total k n with h1 | h1
  · rw [Nat.min_eq_left h1, Int.min_eq_left (Int.ofNat_le.mpr h1), Int.max_eq_right (Int.natCast_nonneg k)]
  · rw [Nat.min_eq_right h1, Int.min_eq_right (Int.ofNat_le.mpr h1), Int.max_eq_right (Int.natCast_nonneg n)]
theorem idx_eq (lo hi : Option Int) (n : Nat) : Builtin.Str.strSliceIndices lo hi 1 n = (List.range (kms_hi hi n - kms_lo lo n)).map (kms_lo lo n + ·) := by
  unfold Builtin.Str.strSliceIndices
  have h1 : (1 : Int) > 0 := by decide
  simp only [h1, if_true]
  rw [← sliceRange_one]
  congr 1
  · cases lo with
    | none => rfl
    | some x =>
      by_cases h : x < 0
      · simp only [kms_lo, if_pos h]; exact clamp_neg h
      · simp only [kms_lo, if_neg h]; exact clamp_pos h
  · cases hi with
    | none => rfl
    | some x =>
      by_cases h : x < 0
      · simp only [kms_hi, if_pos h]; exact clamp_neg h
      · simp only [kms_hi, if_neg h]; exact clamp_pos h
theorem slice_eq (x : Str) (lo hi : Option Int) : (Txt.slice x lo hi).cps.toList = slc x.cps.toList lo hi := by
  unfold Txt.slice
  have hl : (Builtin.Str.strSliceIndices lo hi 1 x.length).length = kms_hi hi x.length - kms_lo lo x.length := by rw [idx_eq]; simp
  have hx : x.length = x.cps.toList.length := by rw [Array.length_toList]; rfl
  split
  · rename_i q
    simp only [beq_self_eq_true, Bool.true_and, beq_iff_eq] at q
    rw [hl] at q
    have hh : kms_hi hi x.length ≤ x.length := by unfold kms_hi; split <;> (try split) <;> omega
    unfold slc
    rw [← hx]
    have e0 : kms_lo lo x.length = 0 ∨ x.length = 0 := by omega
    rcases e0 with e0 | e0
    · rw [e0] at q ⊢
      rw [q, List.drop_zero, List.take_of_length_le (Nat.le_of_eq hx.symm)]
    · have : x.cps.toList = [] := List.length_eq_zero_iff.mp (hx ▸ e0)
      rw [this]; simp
  · show ((Builtin.Str.strSliceIndices lo hi 1 x.length).filterMap (x.cps[·]?)).toArray.toList = _
    rw [idx_eq, List.toList_toArray, pick_run]
    unfold slc
    rw [hx]
theorem slicePick_slc (items : Array Value) (lo hi : Option Int) : slicePick items lo hi none = (slc items.toList lo hi).toArray := kms_pick_eq items lo hi
inductive IsP : V → Option Int → Prop
  | none : IsP .none none
  | int (i : Int) : IsP (.int i) (some i)
theorem IsP.inv {d : V} {i : Option Int} (x : IsP d i) : (d = V.none ∧ i = Option.none) ∨ ∃ k, d = V.int k ∧ i = Option.some k := by
  cases x with
  | none => exact .inl ⟨rfl, rfl⟩
  | int k => exact .inr ⟨k, rfl, rfl⟩
theorem IsP.part {mu : Addr → Prop} {h : Heap} {v : Value} {d : V} {i : Option Int} (x : IsP d i) (m : VM mu h v d) : IsPart v i := by
  rcases x.inv with ⟨rfl, rfl⟩ | ⟨k, rfl, rfl⟩
  · obtain rfl := m.noneI; constructor
  · obtain ⟨t, rfl⟩ := m.intI; constructor
noncomputable abbrev WP (X : Cx) (x : Option Expr) (σ : S) (Q : V → S → Prop) (E : Value → S → Prop) : Prop := W X (evalPart x X.env) VM σ Q E
theorem WP_none {Q : V → S → Prop} (q : Q .none σ) : WP X none σ Q E := fun _ st => evalPart_none_step (qw_self st .none q)
theorem WP_some {e : Expr} {Q : V → S → Prop} (h : WE X e σ Q E) : WP X (some e) σ Q E := fun s st => evalPart_some_step (h s st)
theorem keptAll {h₀ : Heap} : KeptH (fun h => ∀ b o, h₀.get? b = some o → h.get? b = some o) := fun _ ob F b o e => Heap.get?_push_of_some ob (F b o e)
inductive SlcQ {α : Type} (A : List α → Prop) (lo hi : V) (Q : List α → Option Int → Option Int → Prop) : Prop
  | mk (l : List α) (i j : Option Int) (e : A l) (hl : l.length ≤ 10000) (h1 : IsP lo i) (h2 : IsP hi j) (q : Q l i j)
theorem W_SliceStr {value : Expr} {lower upper : Option Expr} {p pos : Pos} {Q : V → S → Prop}
    (h : WE X value σ (fun a σ₁ => WP X lower σ₁ (fun lo σ₂ => WP X upper σ₂ (fun hi σ₃ => SlcQ (fun l => a = .str l) lo hi fun l i j => Q (.str (slc l i j)) σ₃) E) E) E)
    (ht : ∀ x t r, letTemporaryGo value (.str x t) r = pure ()) :
    WE X (.Subscript value (.Slice lower upper none p) pos) σ Q E := fun s st => by
  refine Subscript_ (h.run (Post.refl st) fun v s₁ a σ₁ _ P₁ va h₁ => wpAny_Slice (h₁.run P₁ fun vl s₂ lo σ₂ p₂ P₂ vlo h₂ => h₂.run P₂ fun vu s₃ hi σ₃ p₃ P₃ vhi h₃ => ?_))
  obtain ⟨l, i, j, rfl, hlen, pi, pj, q⟩ := h₃
  obtain ⟨t, rfl⟩ := va.strI
  rw [evalPart_none]
  refine wpAny_pure ?_
  have hsz : (⟨l.toArray⟩ : Str).length ≤ sizeLine := by simp only [Str.length, List.size_toArray]; rw [sizeLine_eq]; omega
  have fin : ∀ h' t' k, (∀ b o, s₃.heap.get? b = some o → h'.get? b = some o) → Qw X σ s VM Q (.str (Txt.slice ⟨l.toArray⟩ i j) t') { s₃ with heap := h', toks := k } := fun h' t' k kk =>
    ⟨_, σ₃, P₃.trans (Post.keeps P₃.st h' k rfl kk), .strE (by rw [slice_eq]), q⟩
  rcases pi.inv with ⟨rfl, rfl⟩ | ⟨k1, rfl, rfl⟩ <;> rcases pj.inv with ⟨rfl, rfl⟩ | ⟨k2, rfl, rfl⟩
  · obtain rfl := vlo.noneI
    obtain rfl := vhi.noneI
    exact tail_of_ItemOn (SBH.sliceItem_nn keptAll (fun _ _ e => e) fin hsz) (by with_unfolding_all rfl) (ht _ _)
  · obtain rfl := vlo.noneI
    obtain ⟨_, rfl⟩ := vhi.intI
    exact tail_of_ItemOn (SBH.sliceItem_ns keptAll (fun _ _ e => e) fin hsz) (by with_unfolding_all rfl) (ht _ _)
  · obtain ⟨_, rfl⟩ := vlo.intI
    obtain rfl := vhi.noneI
    exact tail_of_ItemOn (SBH.sliceItem_sn keptAll (fun _ _ e => e) fin hsz) (by with_unfolding_all rfl) (ht _ _)
  · obtain ⟨_, rfl⟩ := vlo.intI
    obtain ⟨_, rfl⟩ := vhi.intI
    exact tail_of_ItemOn (SBH.sliceItem_ss keptAll (fun _ _ e => e) fin hsz) (by with_unfolding_all rfl) (ht _ _)
theorem VMs.drop {mu : Addr → Prop} {h : Heap} {vs : List Value} {ds : List V} (x : VMs mu h vs ds) (k : Nat) : VMs mu h (vs.drop k) (ds.drop k) := by
  induction k generalizing vs ds with
  | zero => exact x
  | succ k ih => cases x with
    | nil => simp; exact .nil
    | cons a r => simpa using ih r
theorem VMs.take {mu : Addr → Prop} {h : Heap} {vs : List Value} {ds : List V} (x : VMs mu h vs ds) (k : Nat) : VMs mu h (vs.take k) (ds.take k) := by
  induction k generalizing vs ds with
  | zero => simp; exact .nil
  | succ k ih => cases x with
    | nil => simp; exact .nil
    | cons a r => simpa using .cons a (ih r)
theorem VMs.slc {mu : Addr → Prop} {h : Heap} {vs : List Value} {ds : List V} (x : VMs mu h vs ds) (lo hi : Option Int) : VMs mu h (slc vs lo hi) (slc ds lo hi) := by
  unfold Mine.slc
  rw [x.length]
  exact (x.drop _).take _
inductive Lst (σ : S) : V → List V → Prop
  | val (ds : List V) : Lst σ (.lst ds) ds
  | own (a : Addr) (ds : List V) (e : σ.hp a = some (.lst ds)) : Lst σ (.ref a) ds
theorem Lst.get {h : Heap} {v : Value} {d : V} {ds : List V} (l : Lst σ d ds) (st : St X σ h) (x : VM σ.mu h v d) : ∃ a o vs n, v = .ref a ∧ h.get? a = some o ∧ o.cls = .type "list" ∧ o.data = .seq vs.toArray n ∧ VMs σ.mu h vs ds := by
  cases l with
  | val => obtain ⟨a, o, vs, n, e, g, c, d, _, r⟩ := x.lstI; exact ⟨a, o, vs, n, e, g, c, d, r⟩
  | own a ds e =>
    obtain rfl := x.refI
    obtain ⟨⟨vs, n, g, r⟩, _⟩ := st.own a _ e
    exact ⟨a, _, vs, n, rfl, g, rfl, rfl, r⟩
theorem W_SliceLst {value : Expr} {lower upper : Option Expr} {p pos : Pos} {Q : V → S → Prop}
    (h : WE X value σ (fun a σ₁ => WP X lower σ₁ (fun lo σ₂ => WP X upper σ₂ (fun hi σ₃ => SlcQ (Lst σ₃ a) lo hi fun l i j => Q (.lst (slc l i j)) σ₃) E) E) E)
    (ht : ∀ o r, letTemporaryGo value o r = pure ()) :
    WE X (.Subscript value (.Slice lower upper none p) pos) σ Q E := fun s st => by
  refine wpAny_Subscript_list_slice (h.run (Post.refl st) fun v s₁ a σ₁ _ P₁ va h₁ => h₁.run P₁ fun vl s₂ lo σ₂ p₂ P₂ vlo h₂ => h₂.run P₂ fun vu s₃ hi σ₃ p₃ P₃ vhi h₃ => ?_) ht
  obtain ⟨l, i, j, hll, hlen, pi, pj, q⟩ := h₃
  obtain ⟨b, o, vs, k, rfl, g, c, d, vm⟩ := hll.get P₃.st ((va.mono p₂.ext).mono p₃.ext)
  have ip : IsPart vl i := pi.part vlo
  have jp : IsPart vu j := pj.part vhi
  refine ⟨b, vs.toArray, i, j, rfl, ⟨o, g, c, k, d⟩, by rw [List.size_toArray, vm.length, sizeLine_eq]; omega, ip, jp, ?_⟩
  have P₄ := (st_push P₃.st { cls := .type "slice", data := .fields #[vl, vu, .none] })
  have P₅ := st_push P₄.st { cls := .type "list", data := .seq (slicePick vs.toArray i j none) }
  have PP := P₃.trans (P₄.trans P₅)
  have g5 := Heap.get?_push_size (s₃.heap.push { cls := .type "slice", data := .fields #[vl, vu, .none] }) (o := { cls := .type "list", data := .seq (slicePick vs.toArray i j none) }) rfl
  rw [Heap.size_push] at g5
  refine ⟨_, σ₃, PP, .lst g5 rfl (by rw [slicePick_slc]) (fun m => ?_) ((vm.mono (P₄.trans P₅).ext).slc i j), q⟩
  have := new_off P₄.st
  rw [Heap.size_push] at this
  exact this m
theorem W_Sub {value slice : Expr} {pos : Pos} {Q : V → S → Prop} (h : WE X value σ (fun a σ₁ => WE X slice σ₁ (fun b σ₂ => Op2 X (subscriptTail value slice) a b σ₂ Q E) E) E) : WE X (.Subscript value slice pos) σ Q E := fun _ st =>
  Subscript_ (h.run (Post.refl st) fun _ _ _ _ _ P₁ va h₁ => h₁.run P₁ fun _ _ _ _ p₂ P₂ vb h₂ => h₂.go P₂ (va.mono p₂.ext) vb)
theorem fits_ssize {i : Int} (h0 : -100000 ≤ i) (h : i ≤ 100000) : fitsSsize i = true := by unfold fitsSsize; simp; omega
theorem item_cps {l : List Nat} {k : Nat} {c : Nat} (e : l[k]? = some c) : (Txt.item ⟨l.toArray⟩ (k : Int)).cps.toList = [c] := by
  unfold Txt.item Txt.charAt seqIndex?
  have hk := (List.getElem?_eq_some_iff.mp e).1
  have e1 : ¬ ((k : Int) < 0) := by omega
  have e2 : (⟨l.toArray⟩ : Str).length = l.length := by simp [Str.length]
  simp [e1, e2, hk, e]
  obtain ⟨_, h2⟩ := List.getElem?_eq_some_iff.mp e
  exact h2
theorem new_exc {s : Shared} {h' : Heap} {tk : Nat} {e : Addr} {T : String} (st : St X σ s.heap) (N : Heap.NewExc s.heap h' e T) : Post X σ s σ { s with heap := h', toks := tk } ∧ ExcAt X σ.mu h' e (.type T) := by
  have P : Post X σ s σ { s with heap := h', toks := tk } := Post.keeps st h' tk rfl N.keeps
  obtain ⟨ob, t, g, c, d⟩ := N.there
  refine ⟨P, ⟨?_, fun m => ?_⟩, fun hp => ?_, ob, _, t, g, c, d, ⟨rfl, fun _ => rfl⟩, .inl rfl⟩
  · cases q : X.base.get? e with
    | none => rfl
    | some o => have := st.base e o q; rw [N.new] at this; cases this
  · cases q : σ.hp e with
    | none => exact m q
    | some o => obtain ⟨ob, g⟩ := (st.own e o q).1.there; rw [N.new] at g; cases g
  · obtain ⟨_, o, ws, g, _⟩ := st.prot e hp
    rw [N.new] at g; cases g
theorem s_strItem {l : List Nat} {k : Nat} {value slice : Expr} {Q : V → S → Prop} (ok : Ok X n) (hc : X.ctx = none) (hl : l.length ≤ 10000) (hk : k ≤ 10000) (q : match l[k]? with | some c => Q (.str [c]) σ | none => E (.type "IndexError") σ)
    (hs : ∀ x t i u, subscripted slice false (.str x t) (.int i u) = operate [.str x t, .int i u] (getItem (.str x t) (.int i u)))
    (ht : ∀ x t r, letTemporaryGo value (.str x t) r = pure ()) : Op2 X (subscriptTail value slice) (.str l) (.int k) σ Q E := fun v w s st va wb => by
  obtain ⟨t, rfl⟩ := va.strI
  obtain ⟨_, rfl⟩ := wb.intI
  have hlen : (⟨l.toArray⟩ : Str).length = l.length := by simp [Str.length]
  refine item_str_or (by rw [ok.handled, hc]; rfl) (fits_ssize (by omega) (by omega)) (fun ho h' tk e N => ?_) (fun h1 h2 => ?_) (hs _ _ _ _) (ht _ _)
  · rw [hlen] at ho
    have : l[k]? = none := List.getElem?_eq_none (by omega)
    rw [this] at q
    obtain ⟨P, x⟩ := new_exc (tk := tk) st N
    exact ⟨e, _, σ, P, rfl, x, q⟩
  · rw [hlen] at h2
    have hk' : k < l.length := by omega
    have e : l[k]? = some l[k] := List.getElem?_eq_getElem hk'
    rw [e] at q
    exact qw_same st _ (.strE (item_cps e)) q
end
end Mine
namespace Mine
open PySem PySem.W PySem.Calls PySem.Spec PyProof.Rows
section
variable {X : Cx} {n : Nat} {σ : S} {E : Value → S → Prop}
structure Sub (σ' σ : S) : Prop where
  loc : ∀ x d, lk σ'.loc x = some d → lk σ.loc x = some d
  hp : ∀ a o, σ'.hp a = some o → σ.hp a = some o
theorem Sub.post {σ' : S} {s : Shared} (u : Sub σ' σ) (st : St X σ s.heap) : Post X σ s σ' s := post_drop (Post.refl st) u.hp u.loc
theorem W.drop {α β : Type} {t : Sem α} {R : (Addr → Prop) → Heap → α → β → Prop} {Q : β → S → Prop} {σ' : S} (u : Sub σ' σ) (h : W X t R σ' Q E) : W X t R σ Q E := fun s st => h.go (u.post st)
theorem noted_Ew {σ₀ : S} {s₀ s : Shared} {e : Value} (ok : Ok X n) (he : X.env = X.fenv) (h : Ew X σ₀ s₀ E e s) : notedBy (model X.prog X.w) X.A X.env (fun e s' => cameBackBy (model X.prog X.w) X.A X.env (Ew X σ₀ s₀ E) e s') e s := by
  obtain ⟨ea, cls, σ', P, rfl, x, q⟩ := h
  exact noted_back ok he P.st x P q ok.frames
theorem WX_While {test : Expr} {body orelse : List Stmt} {pos : Pos} {Q : FV → S → Prop} (ok : Ok X n) (he : X.env = X.fenv) (I : Nat → S → Prop)
    (turn : ∀ k σ, I k σ → WT X test σ (fun b σ₁ => if b then WXs X body σ₁ (fun f σ₂ => match f with | .next => ∃ m, m < k ∧ I m σ₂ | .cont => ∃ m, m < k ∧ I m σ₂ | .brk => Q .next σ₂ | .ret d => Q (.ret d) σ₂) E else WXs X orelse σ₁ Q E) E)
    (k : Nat) (h : I k σ) : WX X (.While test body orelse pos) σ Q E := fun s st => by
  refine wpAny_While (codeAny_whileLoop (fun k s' => ∃ σ', Post X σ s σ' s' ∧ I k σ') (fun k s₁ hI => ?_) k ⟨σ, Post.refl st, h⟩)
  obtain ⟨σ₁, P₁, i₁⟩ := hI
  refine wpAny_mono ((turn k σ₁ i₁).run P₁ (Q' := fun b s₂ => if b then wpAny (model X.prog X.w) X.A (execs body X.env) (fun f s₃ => match f with
            | .next | .cont => ∃ m, m < k ∧ ∃ σ', Post X σ s σ' s₃ ∧ I m σ'
            | .brk => Qw X σ s FM Q .next s₃
            | .ret v => Qw X σ s FM Q (.ret v) s₃) (Ew X σ s E) s₂
        else wpAny (model X.prog X.w) X.A (execs orelse X.env) (fun f s₃ => Qw X σ s FM Q f s₃) (Ew X σ s E) s₂) fun b s₂ b' σ₂ _ P₂ e q => ?_) (fun b s₂ q => ?_) fun e s₂ q => noted_Ew ok he q
  · subst e
    cases b
    · simp only [Bool.false_eq_true, if_false] at q ⊢
      exact q.go P₂
    · simp only [if_true] at q ⊢
      refine q.run P₂ fun f s₃ g σ₃ _ P₃ r q => ?_
      cases f <;> cases g <;> first | exact r.elim | skip
      · obtain ⟨m, hm, im⟩ := q
        exact ⟨m, hm, σ₃, P₃, im⟩
      · exact ⟨FV.next, σ₃, P₃, trivial, q⟩
      · obtain ⟨m, hm, im⟩ := q
        exact ⟨m, hm, σ₃, P₃, im⟩
      · exact ⟨_, σ₃, P₃, r, q⟩
  · cases b
    · simp only [Bool.false_eq_true, if_false] at q ⊢
      exact wpAny_mono q (fun _ _ z => z) fun _ _ z => noted_Ew ok he z
    · simp only [if_true] at q ⊢
      exact wpAny_mono q (fun f _ z => by cases f <;> exact z) fun _ _ z => noted_Ew ok he z
inductive Iter (X : Cx) (σ : S) (h : Heap) (I : Addr) (n : Nat) (ds : Nat → V) : Prop
  | mk (fp wr : List Addr) (P : Nat → Value → Prop) (St : Nat → Heap → Prop) (hW : ∀ A' : Around, A'.handled = none → Walks X.prog X.w A' I fp wr n P St) (st0 : St 0 h) (hrec : ∀ i h', St i h' → ∀ b ∈ wr, ∃ o vs, h'.get? b = some o ∧ o.data = .fields vs)
    (hwr : ∀ b ∈ wr, X.base.get? b = none ∧ ¬ σ.mu b ∧ b ∉ X.prot) (hfp : ∀ b ∈ fp, b ∉ wr → ¬ σ.mu b ∧ ∃ o, h.get? b = some o ∧ isSeq o.data)
    (hvm : ∀ i v mu' h', i < n → P i v → SeqX σ.mu h mu' h' → VM mu' h' v (ds i))
noncomputable def Itb (X : Cx) (a : V) (σ : S) (n : Nat) (ds : Nat → V) : Prop := ∀ v s (Q : Value → Shared → Prop) (E' : Value → Shared → Prop), St X σ s.heap → VM σ.mu s.heap v a →
  (∀ I s', Post X σ s σ s' → Iter X σ s'.heap I n ds → Q (.ref I) s') → wpAny (model X.prog X.w) X.A (pyIter v) Q E' s
noncomputable def Cx.watch (X : Cx) (wr : List Addr) : Cx := { X with prot := wr ++ X.prot }
theorem ok_watch {wr : List Addr} (ok : Ok X n) (h : X.env.locals ∉ wr) : Ok (X.watch wr) n :=
  ⟨ok.inK, ok.top, ok.frames, ok.frame, ok.eframe, ok.kind, ok.genv, ok.benv, ok.above, (fun q => (List.mem_append.mp q).elim h ok.locProt), ok.handled, (fun p q => List.mem_append_right _ (ok.ctxIn p q)), ok.depth, ok.units⟩
theorem st_watch {h : Heap} {wr : List Addr} (hc : X.ctx = none) (st : St X σ h) (hw : ∀ b ∈ wr, ¬ σ.mu b ∧ ∃ o vs, h.get? b = some o ∧ o.data = .fields vs) : St (X.watch wr) σ h :=
  ⟨st.base, st.names, st.own, st.locOff, (fun a ha => (List.mem_append.mp ha).elim (fun q => let ⟨z, o, vs, g, d⟩ := hw a q; ⟨z, o, vs, g, d, fun e => by have e' : X.ctx = some (a, true) := e; rw [hc] at e'; cases e'⟩) fun q => st.prot a q), st.frs⟩
theorem st_unwatch {h : Heap} {wr : List Addr} (st : St (X.watch wr) σ h) : St X σ h := ⟨st.base, st.names, st.own, st.locOff, fun a ha => st.prot a (List.mem_append_right _ ha), st.frs⟩
theorem post_unwatch {s s' : Shared} {σ' : S} {wr : List Addr} (P : Post (X.watch wr) σ s σ' s') : Post X σ s σ' s' :=
  ⟨P.upd, ⟨P.ext.seq, P.ext.obj, fun a ha => P.ext.watch a (List.mem_append_right _ ha)⟩, st_unwatch P.st⟩
theorem exc_unwatch {mu : Addr → Prop} {h : Heap} {e : Addr} {wr : List Addr} {cls : Value} (x : ExcAt (X.watch wr) mu h e cls) : ExcAt X mu h e cls := by
  obtain ⟨a, pe, oe, vs, a0, g, c, d, v0, hx⟩ := x
  refine ⟨a, fun q => pe (List.mem_append_right _ q), oe, vs, a0, g, c, d, v0, ?_⟩
  rcases hx with v1 | ⟨T, oT, ts, v1, bT, pT, r⟩
  · exact .inl v1
  · exact .inr ⟨T, oT, ts, v1, bT, (fun q => pT (List.mem_append_right _ q)), r⟩
inductive ItAt (X : Cx) (σ : S) (s : Shared) (Q : Nat → (Nat → V) → S → Prop) (it : Value) (s₂ : Shared) : Prop
  | mk (I : Addr) (N : Nat) (ds : Nat → V) (σ₂ : S) (e : it = .ref I) (P : Post X σ s σ₂ s₂) (IT : Iter X σ₂ s₂.heap I N ds) (q : Q N ds σ₂)
noncomputable def WIt (X : Cx) (iter : Expr) (σ : S) (Q : Nat → (Nat → V) → S → Prop) (E : Value → S → Prop) : Prop :=
  ∀ s, St X σ s.heap → wpAny (model X.prog X.w) X.A (eval iter X.env) (fun x s₁ => wpAny (model X.prog X.w) X.A (pyIter x) (ItAt X σ s Q) (Ew X σ s E) s₁) (Ew X σ s E) s
theorem wit_val {iter : Expr} {Q : Nat → (Nat → V) → S → Prop} (h : WE X iter σ (fun a σ₁ => ∃ N ds, Itb X a σ₁ N ds ∧ Q N ds σ₁) E) : WIt X iter σ Q E := fun s st =>
  h.run (Post.refl st) fun v s₁ a σ₁ _ P₁ va ⟨N, ds, itb, q⟩ => itb v s₁ _ _ P₁.st va fun J s₂ P₂ IT => ⟨J, N, ds, σ₁, rfl, P₁.trans P₂, IT, q⟩
theorem new_facts {s : Shared} (st : St X σ s.heap) : X.base.get? s.heap.objs.size = none ∧ ¬ σ.mu s.heap.objs.size ∧ s.heap.objs.size ∉ X.prot := by
  refine ⟨?_, new_off st, fun hp => ?_⟩
  · cases q : X.base.get? s.heap.objs.size with
    | none => rfl
    | some o => exact absurd (Heap.lt_size (st.base _ o q)) (Nat.lt_irrefl _)
  · obtain ⟨_, o, vs, g, _⟩ := st.prot _ hp
    exact absurd (Heap.lt_size g) (Nat.lt_irrefl _)
theorem itb_str {l : List Nat} : Itb X (.str l) σ l.length (fun i => .str [l.getD i 0]) := fun v s Q E' st vm q => by
  obtain ⟨t, rfl⟩ := vm.strI
  refine wpAny_pyIter_strU (q _ _ (st_push st _) ?_)
  have hsz : (⟨l.toArray⟩ : Str).cps.size = l.length := by simp
  have hv : ∀ i v mu' h', i < l.length → SignAt ⟨l.toArray⟩ i v → SeqX σ.mu (s.heap.push { cls := .type (strIterType ⟨l.toArray⟩), data := .fields #[.str ⟨l.toArray⟩ t, .int 0 0] }) mu' h' → VM mu' h' v (.str [l.getD i 0]) := fun i v mu' h' hi sa _ => by
    obtain ⟨c, u, e, rfl⟩ := sa
    have e' : l[i]? = some c := by simpa using e
    refine .strE ?_
    rw [List.getD_eq_getElem?_getD, e']; rfl
  have hst : Heap.IsStrIter (s.heap.push { cls := .type (strIterType ⟨l.toArray⟩), data := .fields #[.str ⟨l.toArray⟩ t, .int 0 0] }) s.heap.objs.size (strIterType ⟨l.toArray⟩) ⟨l.toArray⟩ t 0 := ⟨_, Heap.get?_push_size _ rfl, rfl, rfl⟩
  refine ⟨[s.heap.objs.size], [s.heap.objs.size], SignAt ⟨l.toArray⟩, fun i h => h.IsStrIter s.heap.objs.size (strIterType ⟨l.toArray⟩) ⟨l.toArray⟩ t i, fun A' hA => ?_, hst, fun i h' ⟨o, g, c, d⟩ b hb => ?_, fun b hb => ?_, fun b hb nb => absurd hb nb, hv⟩
  · rw [← hsz]
    unfold strIterType
    split
    · exact Walks.strAscii hA _ _ t
    · exact Walks.strWide hA _ _ t
  · rw [List.mem_singleton.mp hb]; exact ⟨o, _, g, d⟩
  · rw [List.mem_singleton.mp hb]; exact new_facts st
theorem itb_lst {ds : List V} : Itb X (.lst ds) σ ds.length (fun i => ds.getD i .none) := fun v s Q E' st vm q => by
  obtain ⟨a, o, vs, n, rfl, g, c, d, nm, vms⟩ := vm.lstI
  refine wpAny_pyIter_list (items := vs.toArray) ⟨o, g, c, n, d⟩ (q _ _ (st_push st _) ?_)
  have P := st_push st { cls := .type "list_iterator", data := .fields #[.ref a, .int 0 0] }
  have ga := Heap.get?_push_of_some { cls := .type "list_iterator", data := .fields #[.ref a, .int 0 0] } g
  have ne : a ≠ s.heap.objs.size := Nat.ne_of_lt (Heap.lt_size g)
  have hsz : vs.toArray.size = ds.length := by rw [List.size_toArray, vms.length]
  refine ⟨[s.heap.objs.size, a], [s.heap.objs.size], fun i v => vs.toArray[i]? = some v, fun i h => h.IsListIter s.heap.objs.size a i ∧ h.IsList a vs.toArray, fun A' hA => by rw [← hsz]; exact Walks.list hA _ _ ne _, ⟨⟨_, Heap.get?_push_size _ rfl, rfl, rfl⟩, ⟨o, ga, c, n, d⟩⟩, fun i h' ⟨⟨o, g, c, d⟩, _⟩ b hb => ?_, fun b hb => ?_, fun b hb nb => ?_, fun i v mu' h' hi e x => ?_⟩
  · rw [List.mem_singleton.mp hb]; exact ⟨o, _, g, d⟩
  · rw [List.mem_singleton.mp hb]; exact new_facts st
  · rcases List.mem_cons.mp hb with rfl | hb
    · exact absurd (.head _) nb
    · rw [List.mem_singleton.mp hb]; exact ⟨nm, o, ga, by rw [d]; trivial⟩
  · have e' : vs[i]? = some v := by simpa using e
    obtain ⟨dv, e2, vm'⟩ := vms.get' e'
    have vm'' := (vm'.mono P.ext).monoS x
    show VM mu' h' v (ds.getD i .none)
    rw [List.getD_eq_getElem?_getD, e2]; exact vm''
end
end Mine
namespace Mine
open PySem PySem.W PySem.Calls PySem.Spec PyProof.Rows
section
variable {X : Cx} {n : Nat} {σ : S} {E : Value → S → Prop}
inductive IterT (X : Cx) (σ : S) (h : Heap) (I : Addr) (n : Nat) (d1 d2 : Nat → V) : Prop
  | mk (fp wr : List Addr) (Pt : Nat → Array Value → Prop) (SS : Nat → Heap → Prop) (Mid : Nat → Addr → Heap → Prop) (hW : ∀ A' : Around, A'.handled = none → WalksU X.prog X.w A' I fp wr n Pt SS Mid) (st0 : SS 0 h) (hrec : ∀ i h', SS i h' → ∀ b ∈ wr, ∃ o vs, h'.get? b = some o ∧ o.data = .fields vs)
    (hrec2 : ∀ i T h', Mid i T h' → ∀ b ∈ wr, ∃ o vs, h'.get? b = some o ∧ o.data = .fields vs)
    (hwr : ∀ b ∈ wr, X.base.get? b = none ∧ ¬ σ.mu b ∧ b ∉ X.prot) (hfp : ∀ b ∈ fp, b ∉ wr → ¬ σ.mu b ∧ ∃ o, h.get? b = some o ∧ isSeq o.data)
    (hvm : ∀ i vals mu' h', i < n → Pt i vals → SeqX σ.mu h mu' h' → ∃ v w, vals = #[v, w] ∧ VM mu' h' v (d1 i) ∧ VM mu' h' w (d2 i))
inductive ItAtT (X : Cx) (σ : S) (s : Shared) (Q : Nat → (Nat → V) → (Nat → V) → S → Prop) (it : Value) (s₂ : Shared) : Prop
  | mk (I : Addr) (N : Nat) (d1 d2 : Nat → V) (σ₂ : S) (e : it = .ref I) (P : Post X σ s σ₂ s₂) (IT : IterT X σ₂ s₂.heap I N d1 d2) (q : Q N d1 d2 σ₂)
noncomputable def WItT (X : Cx) (iter : Expr) (σ : S) (Q : Nat → (Nat → V) → (Nat → V) → S → Prop) (E : Value → S → Prop) : Prop :=
  ∀ s, St X σ s.heap → wpAny (model X.prog X.w) X.A (eval iter X.env) (fun x s₁ => wpAny (model X.prog X.w) X.A (pyIter x) (ItAtT X σ s Q) (Ew X σ s E) s₁) (Ew X σ s E) s
end
end Mine
namespace Mine
open PySem PySem.W PySem.Calls PySem.Spec PyProof.Rows
section
variable {X : Cx} {n : Nat} {σ : S} {E : Value → S → Prop}
theorem call_raw {pos : Pos} {f : Value} {trees : List (Bool × Sem Value)} {Q : Value → Shared → Prop} {E' : Value → Shared → Prop} {s : Shared} {A : Around} (hk : Keeps X f) (hplain : trees.any (·.1) = false)
    (main : wpAny (model X.prog X.w) A (spliced trees) (fun vs s₁ => X.K.In s₁.heap ∧ wpAny (model X.prog X.w) A (call f vs) Q E' s₁) E' s) : wpAny (model X.prog X.w) A (callWith pos f [] trees []) Q E' s := by
  refine callWith_of (P := X.K.In) (by rw [hplain]; rfl) hk ?_
  cases trees with
  | nil =>
    unfold evalArgs
    show wpAny _ _ (spliced [] >>= _) _ _ s
    refine wpAny_bind (wpAny_mono main (fun vs s' h' => ?_) fun _ _ x => x)
    refine wpAny_holding ?_
    exact wpAny_bind (wpAny_pure (wpAny_bind (wpAny_pure (wpAny_pure h'))))
  | cons t r =>
    obtain ⟨b, t⟩ := t
    cases b
    · exact evalArgs_plain main
    · simp at hplain
structure KB (X : Cx) (x : Str) (v : Value) : Prop where
  kind : X.env.kindOf x = some .globalImplicit
  glob : nsIn X.K mainGlobals x = some none
  boot : bootBuiltins x = some v
theorem W_kb {x : Str} {pos : Pos} {v : Value} {Q : V → S → Prop} (ok : Ok X n) (k : KB X x v) (hn : x ≠ "__name__") (q : Q (.lit v) σ) (hd : (x == ("__debug__" : Str)) = false) : WE X (.Name x pos) σ Q E :=
  W_builtin ok k.kind k.glob k.boot hn q hd
inductive RngQ (ds : List V) (P : Nat → Prop) : Prop
  | mk (b : Nat) (e : ds = [.int b]) (hb : b ≤ 100000) (q : P b)
theorem wit_range1 {e : Expr} {np pos : Pos} {Q : Nat → (Nat → V) → S → Prop} (ok : Ok X n) (k : KB X "range" (.type "range")) (hplain : ∀ env, (backTo pos (starEach [e] env)).any (·.1) = false)
    (h : W X (spliced (backTo pos (starEach [e] X.env))) VMs σ (fun ds σ₁ => RngQ ds fun b => Q b (fun i => .int i) σ₁) E) : WIt X (.Call (.Name "range" np) [e] [] pos) σ Q E := fun s st => by
  refine wpAny_Call_NameR ((W_kb (Q := fun f σ' => f = .lit (.type "range") ∧ σ' = σ) ok k (by decide) ⟨rfl, rfl⟩ (by decide)).run (Post.refl st) fun v s₁ f σ₁ _ P₁ vm h₁ => ?_)
  obtain ⟨rfl, rfl⟩ := h₁
  cases vm.litI
  refine call_raw keeps_type (hplain _) (h.run P₁ fun vs s₂ ds σ₂ p₂ P₂ vms h₂ => ⟨P₂.st.inK ok, ?_⟩)
  obtain ⟨b, rfl, hb, q⟩ := h₂
  obtain ⟨v, rfl, vv⟩ := vms.one
  obtain ⟨tk, rfl⟩ := vv.intI
  refine call_range_1 ?_
  have P₃ : Post X σ₂ s₂ σ₂ { s₂ with heap := s₂.heap.push { cls := .type "range", data := .fields #[.int 0 s₂.toks, .int b tk, .int 1 (s₂.toks + 1)] }, toks := s₂.toks + 1 + 1 } :=
    Post.keeps P₂.st _ _ rfl fun _ _ e => Heap.get?_push_of_some _ e
  refine wpAny_pyIter_range (s := { s₂ with heap := s₂.heap.push { cls := .type "range", data := .fields #[.int 0 s₂.toks, .int b tk, .int 1 (s₂.toks + 1)] }, toks := s₂.toks + 1 + 1 }) (IsRange.new ..) (small_one (by omega) (by omega) (by omega) (by omega)) ?_
  have P₄ := st_push P₃.st { cls := .type "range_iterator", data := .fields #[rawInt 0, rawInt (Builtin.Range.rangeSize 0 b 1), rawInt 1] }
  have er : Builtin.Range.rangeSize 0 (b : Int) 1 = (b : Int) := by rw [rangeSize_one]; split <;> omega
  refine ⟨_, b, _, σ₂, rfl, P₂.trans (P₃.trans P₄), ?_, q⟩
  refine ⟨[_], [_], fun i v => ∃ t, v = .int (0 + i * 1) t, fun i h => IsRangeIter h (s₂.heap.push { cls := .type "range", data := .fields #[.int 0 s₂.toks, .int b tk, .int 1 (s₂.toks + 1)] }).objs.size (0 + (i : Nat) * 1) ((b : Int) - (i : Nat)) 1, fun A' hA => Walks.range hA _ 0 1 b, ?_, fun i h' g c hc => ?_, fun c hc => ?_, fun c hc nb => absurd hc nb, fun i v mu' h' _ hv _ => ?_⟩
  · have g := Heap.get?_push_size (s₂.heap.push { cls := .type "range", data := .fields #[.int 0 s₂.toks, .int b tk, .int 1 (s₂.toks + 1)] }) (o := { cls := .type "range_iterator", data := .fields #[rawInt 0, rawInt (Builtin.Range.rangeSize 0 b 1), rawInt 1] }) rfl
    rw [er] at g
    show Heap.get? _ _ = _
    simpa [er] using g
  · rw [List.mem_singleton.mp hc]; exact ⟨_, _, g, rfl⟩
  · rw [List.mem_singleton.mp hc]; exact new_facts P₃.st
  · obtain ⟨t, rfl⟩ := hv
    have e : ((0 : Int) + (i : Int) * 1) = (i : Int) := by omega
    rw [e]; exact .int _ _
theorem draws_str {prog : Program} {w : World} {A : Around} (hh : A.handled = none) (it : Addr) (x : Str) (t : Tok) : Draws prog w A it [it] x.cps.size (SignAt x) (fun i h => h.IsStrIter it (strIterType x) x t i) := by
  unfold strIterType
  split
  · exact Draws.strAscii hh it x t
  · exact Draws.strWide hh it x t
theorem wit_enumStr {e : Expr} {np pos : Pos} {Q : Nat → (Nat → V) → (Nat → V) → S → Prop} (ok : Ok X n) (k : KB X "enumerate" (.type "enumerate")) (hplain : ∀ env, (backTo pos (starEach [e] env)).any (·.1) = false)
    (h : W X (spliced (backTo pos (starEach [e] X.env))) VMs σ (fun ds σ₁ => ∃ l, ds = [.str l] ∧ Q l.length (fun i => .int i) (fun i => .str [l.getD i 0]) σ₁) E) : WItT X (.Call (.Name "enumerate" np) [e] [] pos) σ Q E := fun s st => by
  refine wpAny_Call_NameR ((W_kb (Q := fun f σ' => f = .lit (.type "enumerate") ∧ σ' = σ) ok k (by decide) ⟨rfl, rfl⟩ (by decide)).run (Post.refl st) fun v s₁ f σ₁ _ P₁ vm h₁ => ?_)
  obtain ⟨rfl, rfl⟩ := h₁
  cases vm.litI
  refine call_raw keeps_type (hplain _) (h.run P₁ fun vs s₂ ds σ₂ p₂ P₂ vms h₂ => ⟨P₂.st.inK ok, ?_⟩)
  obtain ⟨l, rfl, q⟩ := h₂
  obtain ⟨v, rfl, vv⟩ := vms.one
  obtain ⟨t, rfl⟩ := vv.strI
  refine call_enumerate_str fun h' he hi hz hk => ?_
  refine wpAny_pyIter_enum he ?_
  have P₃ : Post X σ₂ s₂ σ₂ { s₂ with heap := h' } := Post.keeps P₂.st h' s₂.toks rfl hk
  have hsz : (⟨l.toArray⟩ : Str).cps.size = l.length := by simp
  have nf := new_facts P₂.st
  have nf2 : X.base.get? (s₂.heap.objs.size + 1) = none ∧ ¬ σ₂.mu (s₂.heap.objs.size + 1) ∧ s₂.heap.objs.size + 1 ∉ X.prot := by
    have big : s₂.heap.get? (s₂.heap.objs.size + 1) = none := Heap.get?_none_of_le (Nat.le_succ _)
    refine ⟨?_, fun m => ?_, fun hp => ?_⟩
    · cases q : X.base.get? (s₂.heap.objs.size + 1) with
      | none => rfl
      | some o => have := P₂.st.base _ o q; rw [big] at this; cases this
    · cases q : σ₂.hp (s₂.heap.objs.size + 1) with
      | none => exact m q
      | some o => obtain ⟨ob, g⟩ := (P₂.st.own _ o q).1.there; rw [big] at g; cases g
    · obtain ⟨_, o, ws, g, _⟩ := P₂.st.prot _ hp
      rw [big] at g; cases g
  refine ⟨_, l.length, _, _, σ₂, rfl, P₂.trans P₃, ?_, q⟩
  refine ⟨[s₂.heap.objs.size + 1, s₂.heap.objs.size], [s₂.heap.objs.size + 1, s₂.heap.objs.size], fun i vals => ∃ t x, SignAt ⟨l.toArray⟩ i x ∧ vals = #[.int i t, x],
    fun i h => (∃ old, IsEnum h (s₂.heap.objs.size + 1) s₂.heap.objs.size i old) ∧ h.IsStrIter s₂.heap.objs.size (strIterType ⟨l.toArray⟩) ⟨l.toArray⟩ t i,
    fun i T h => (∃ x, IsEnumOut h (s₂.heap.objs.size + 1) s₂.heap.objs.size ((i : Int) + 1) x T) ∧ h.IsStrIter s₂.heap.objs.size (strIterType ⟨l.toArray⟩) ⟨l.toArray⟩ t (i + 1) ∧ T ≠ s₂.heap.objs.size + 1 ∧ T ≠ s₂.heap.objs.size, fun A' hA => ?_, ⟨⟨_, he⟩, hi⟩, fun i h₁ ⟨⟨old, ho⟩, ⟨o, g, c, d⟩⟩ b hb => ?_, fun i T h₁ ⟨⟨x, ho⟩, ⟨o, g, c, d⟩, _⟩ b hb => ?_, fun b hb => ?_, fun b hb nb => absurd hb nb, fun i vals mu' h' _ hv _ => ?_⟩
  · rw [← hsz]
    exact (WalksT.enumerateD (draws_str (A := A'.in1) hA s₂.heap.objs.size ⟨l.toArray⟩ t) (s₂.heap.objs.size + 1) (Nat.succ_ne_self _) (by simp) (by simp)).toU
  · rcases List.mem_cons.mp hb with rfl | hb
    · exact ⟨_, _, ho, rfl⟩
    · rw [List.mem_singleton.mp hb]; exact ⟨o, _, g, d⟩
  · rcases List.mem_cons.mp hb with rfl | hb
    · exact ⟨_, _, ho, rfl⟩
    · rw [List.mem_singleton.mp hb]; exact ⟨o, _, g, d⟩
  · rcases List.mem_cons.mp hb with rfl | hb
    · exact nf2
    · rw [List.mem_singleton.mp hb]; exact nf
  · obtain ⟨t', x, ⟨c, u, e, rfl⟩, rfl⟩ := hv
    have e' : l[i]? = some c := by simpa using e
    refine ⟨_, _, rfl, .int _ _, .strE ?_⟩
    rw [List.getD_eq_getElem?_getD, e']; rfl
end
end Mine
namespace Mine
open PySem PySem.W PySem.Calls PySem.Spec PyProof.Rows
section
variable {X : Cx} {n : Nat} {σ : S} {E : Value → S → Prop}
theorem W_ListO {elts : List Expr} {pos : Pos} {Q : V → S → Prop} (ok : Ok X n) (h : W X (spliced (backTo pos (starEach elts X.env))) VMs σ (fun as σ₁ => as.length ≤ 1000 ∧ ∀ a, σ₁.hp a = none → Q (.ref a) { σ₁ with hp := upd σ₁.hp a (.lst as) }) E) : WE X (.List elts pos) σ Q E := fun _ st =>
  List_ (h.run (Post.refl st) fun vs s₁ as σ₁ _ P₁ va q => wpAny_newList (by
    have P := post_write (h' := s₁.heap.push { cls := .type "list", data := .seq vs.toArray }) (tk := s₁.toks) (a := s₁.heap.objs.size) (o := .lst as) ok P₁.st (fun b o _ _ e => Heap.get?_push_of_some _ e) (by obtain ⟨m, hn, hm⟩ := P₁.st.names; exact ⟨m, hn.push _, hm⟩) (.inr (Heap.get?_none_of_le (Nat.le_refl _)))
      fun _ _ mv => ⟨vs, 0, Heap.get?_push_size _ rfl, mv _ _ va⟩
    exact ⟨.ref s₁.heap.objs.size, _, P₁.trans P, .ref _, q.2 _ (new_none P₁.st)⟩) (by rw [va.length, sizeLine_eq]; omega))
theorem gm_append {a : Addr} {ds : List V} {Q : Value → List V → S → Prop} (h1 : σ.hp a = some (.lst ds)) (q : Q (.builtin "list.append") [.ref a] σ) : GetM X (.ref a) "append" σ Q E := by
  intro v s pl st vm
  obtain rfl := vm.refI
  obtain ⟨⟨vs, k, g, _⟩, _⟩ := st.own a _ h1
  exact Calls.getMethod_list_append g rfl rfl ⟨[.ref a], σ, Post.refl st, .cons (.ref a) .nil, q⟩
theorem c_append {a : Addr} {ds : List V} {d : V} {Q : V → S → Prop} (ok : Ok X n) (h1 : σ.hp a = some (.lst ds)) (hl : ds.length ≤ 10000000) (q : Q .none { σ with hp := upd σ.hp a (.lst (ds ++ [d])) }) : Call X (.builtin "list.append") [.ref a, d] σ Q E := fun vs s st vm => by
  obtain ⟨v, w, rfl, va, vb⟩ := vm.two
  obtain rfl := va.refI
  obtain ⟨⟨vs, k, g, vms⟩, _⟩ := st.own a _ h1
  refine append_at g (fun h' hs g' => ?_) (by rw [List.size_toArray, vms.length, sizeLine_eq]; omega)
  obtain ⟨m, hn, hm⟩ := st.names
  have aL : X.env.locals ≠ a := fun e => st.locOff (by rw [e]; show σ.hp a ≠ none; rw [h1]; exact Option.some_ne_none _)
  have P := post_write (h' := h') (tk := s.toks) (a := a) (o := .lst (ds ++ [d])) ok st (fun b o n1 _ e => (hs.2 b n1).trans e) ⟨m, hn.at' (fun o e => (hs.2 _ aL).trans e), hm⟩ (.inl (by rw [h1]; exact Option.some_ne_none _))
    fun mv _ mvs => ⟨vs ++ [w], k + 1, by rw [g']; simp, (mvs _ _ vms).append (.cons (mv _ _ vb) .nil)⟩
  exact ⟨.none, _, P, .none, q⟩
inductive Fz (hp hp' : Addr → Option HO) : V → V → Prop
  | refl (d : V) : Fz hp hp' d d
  | pair {a b a' b' : V} : Fz hp hp' a a' → Fz hp hp' b b' → Fz hp hp' (.tup [a, b]) (.tup [a', b'])
  | own {a : Addr} {ds : List V} : hp a = some (.lst ds) → hp' a = none → Fz hp hp' (.ref a) (.lst ds)
theorem Fz.vm {h : Heap} {hp' : Addr → Option HO} (st : St X σ h) (hs : ∀ a o, hp' a = some o → σ.hp a = some o) {d d' : V} (z : Fz σ.hp hp' d d') : ∀ {v : Value}, VM σ.mu h v d → VM (S.mu ⟨σ.loc, hp'⟩) h v d' := by
  have nm : ∀ a, ¬ σ.mu a → ¬ S.mu ⟨σ.loc, hp'⟩ a := fun a n m => by
    cases q : hp' a with
    | none => exact m q
    | some o => exact n (by show σ.hp a ≠ none; rw [hs a o q]; exact Option.some_ne_none _)
  induction z with
  | refl d => exact fun x => vm_drop x hs
  | pair _ _ iha ihb =>
    intro v x
    obtain ⟨a, o, vs, n, rfl, g, c, e, nmu, vm⟩ := x.tupI
    obtain ⟨v, w, rfl, v1, v2⟩ := vm.two
    exact .tup g c e (nm _ nmu) (.cons (iha v1) (.cons (ihb v2) .nil))
  | own h1 h2 =>
    intro v x
    obtain rfl := x.refI
    obtain ⟨⟨vs, k, g, vms⟩, _⟩ := st.own _ _ h1
    refine .lst g rfl rfl (fun m => m h2) ?_
    refine vms.mono (L := 0) (prot := []) ⟨fun a o e n _ => ⟨e, nm a n⟩, fun a o e n _ _ => ⟨nm a n, o.slots, e⟩, fun a ha => nomatch ha⟩
structure SubF (σ' σ : S) : Prop where
  hp : ∀ a o, σ'.hp a = some o → σ.hp a = some o
  loc : ∀ x d', lk σ'.loc x = some d' → ∃ d, lk σ.loc x = some d ∧ Fz σ.hp σ'.hp d d'
theorem Call.fz {f : Value} {ds : List V} {Q : V → S → Prop} (h : Call X f ds σ (fun d σ' => ∃ hp' d', (∀ a o, hp' a = some o → σ'.hp a = some o) ∧ Fz σ'.hp hp' d d' ∧ Q d' ⟨σ'.loc, hp'⟩) E) : Call X f ds σ Q E := fun vs s st vm =>
  wpAny_mono (h vs s st vm) (fun v s' q => by
    obtain ⟨d, σ', P, r, hp', d', hs, z, q⟩ := q
    exact ⟨d', _, post_drop P hs (fun _ _ e => e), z.vm P.st hs r, q⟩) fun _ _ q => q
mutual
noncomputable def V.dat : V → PyData
  | .none => .none
  | .bool b => .bool b
  | .int i => .int i
  | .str l => .str ⟨l.toArray⟩
  | .tup ds => .tuple (V.dats ds)
  | .lst ds => .list (V.dats ds)
  | .ref _ => .none
  | .lit _ => .none
noncomputable def V.dats : List V → List PyData
  | [] => []
  | d :: ds => V.dat d :: V.dats ds
end
mutual
noncomputable def V.plain : V → Bool
  | .tup ds => V.plains ds
  | .lst ds => V.plains ds
  | .ref _ => false
  | .lit _ => false
  | _ => true
noncomputable def V.plains : List V → Bool
  | [] => true
  | d :: ds => V.plain d && V.plains ds
end
mutual
theorem VM.reads {mu : Addr → Prop} {h : Heap} : ∀ (d : V) (v : Value), V.plain d = true → VM mu h v d → ∃ as, Reads h v (V.dat d) as
  | .none, v, _, x => by cases x; exact ⟨_, .none⟩
  | .bool b, v, _, x => by cases x; exact ⟨_, .bool b⟩
  | .int i, v, _, x => by cases x; exact ⟨_, .int i _⟩
  | .str l, v, _, x => by obtain ⟨t, rfl⟩ := x.strI; exact ⟨_, .str _ t⟩
  | .tup ds, v, p, x => by
    obtain ⟨a, o, vs, n, rfl, g, c, e, _, vm⟩ := x.tupI
    obtain ⟨as, r⟩ := VMs.reads ds vs (by simpa [V.plain] using p) vm
    exact ⟨_, .tuple g c e (by rw [List.toList_toArray]; exact r)⟩
  | .lst ds, v, p, x => by
    obtain ⟨a, o, vs, n, rfl, g, c, e, _, vm⟩ := x.lstI
    obtain ⟨as, r⟩ := VMs.reads ds vs (by simpa [V.plain] using p) vm
    exact ⟨_, .list g c e (by rw [List.toList_toArray]; exact r)⟩
  | .ref _, v, p, x => by simp [V.plain] at p
  | .lit _, v, p, x => by simp [V.plain] at p
theorem VMs.reads {mu : Addr → Prop} {h : Heap} : ∀ (ds : List V) (vs : List Value), V.plains ds = true → VMs mu h vs ds → ∃ as, ReadsAll h vs (V.dats ds) as
  | [], vs, _, x => by cases x; exact ⟨_, .nil⟩
  | d :: ds, vs, p, x => by
    obtain ⟨v, ws, rfl, a, r⟩ := x.consI
    simp only [V.plains, Bool.and_eq_true] at p
    obtain ⟨as, ra⟩ := VM.reads d v p.1 a
    obtain ⟨bs, rb⟩ := VMs.reads ds ws p.2 r
    exact ⟨_, .cons ra rb⟩
end
structure Shp (d : V) : Prop where
  plain : V.plain d = true
  shaped : (PyData.canLay0 (V.dat d) && decide ((V.dat d).depth ≤ 64)) = true
theorem o_ned {a b : V} {Q : V → S → Prop} (ok : Ok X n) (ha : Shp a) (hb : Shp b) (q : Q (.bool (!PyData.eqv a.dat b.dat)) σ) : Op2 X (compareOp .NotEq) a b σ Q E := fun v w s st va wb => by
  obtain ⟨as, ra⟩ := VM.reads a v ha.plain va
  obtain ⟨bs, rb⟩ := VM.reads b w hb.plain wb
  exact ne_dataH ra rb ha.shaped hb.shaped (by have := ok.units; omega) (qw_self st (.bool _) q)
theorem eqv_self {a : V} (ha : Shp a) : PyData.eqv a.dat a.dat = true := SeqAt.eqv_refl _ (SeqAt.canLay_of_shaped ha.shaped)
end
end Mine
namespace Mine
open PySem PySem.W PySem.Calls PySem.Spec PyProof.Rows
section
variable {X : Cx} {n : Nat} {σ : S} {E : Value → S → Prop}
noncomputable abbrev mk (l : List Nat) : Str := ⟨l.toArray⟩
theorem VMs.strs {mu : Addr → Prop} {h : Heap} : ∀ {ls : List (List Nat)} {vs : List Value}, VMs mu h vs (ls.map V.str) → ∃ l : List (Str × Tok), vs = strValues l ∧ l.map (·.1) = ls.map mk
  | [], vs, x => by cases x; exact ⟨[], rfl, rfl⟩
  | a :: ls, vs, x => by
    obtain ⟨v, ws, rfl, y, r⟩ := x.consI
    obtain ⟨t, rfl⟩ := y.strI
    obtain ⟨l, rfl, e⟩ := VMs.strs r
    exact ⟨(mk a, t) :: l, rfl, by simp [e]⟩
theorem strs_VMs {mu : Addr → Prop} {h : Heap} : ∀ (l : List (Str × Tok)), VMs mu h (strValues l) ((l.map (·.1)).map fun x => V.str x.cps.toList)
  | [] => .nil
  | (x, t) :: l => .cons (.str x t) (strs_VMs l)
theorem VMs.intsI {mu : Addr → Prop} {h : Heap} : ∀ {ns : List Int} {vs : List Value}, VMs mu h vs (ns.map V.int) → IntsAre vs ns
  | [], vs, x => by cases x; exact .nil
  | a :: ns, vs, x => by
    obtain ⟨v, ws, rfl, y, r⟩ := x.consI
    cases y
    exact .cons _ _ (VMs.intsI r)
noncomputable def joinL (sep : List Nat) (ls : List (List Nat)) : List Nat := (Txt.join (mk sep) (ls.map mk)).cps.toList
noncomputable def splitL (x y : List Nat) : List (List Nat) := (Txt.split (mk x) (mk y)).map fun p => p.cps.toList
noncomputable def replL (x y z : List Nat) : List Nat := (Txt.replace (mk x) (mk y) (mk z)).cps.toList
noncomputable def countL (x y : List Nat) : Int := Txt.count (mk x) (mk y)
theorem mk_len (l : List Nat) : (mk l).length = l.length := by simp [Str.length]
section
variable {Q : V → S → Prop}
theorem c_join {sep : List Nat} {ls : List (List Nat)} (hb : ∀ l ∈ ls, l.length ≤ 1000) (hs : sep.length ≤ 1000) (hn : ls.length ≤ 1000) {dl : V} (hll : Lst σ dl (ls.map .str)) (q : Q (.str (joinL sep ls)) σ) : Call X (.builtin "str.join") [.str sep, dl] σ Q E := fun vs s st vm => by
  obtain ⟨v, w, rfl, va, vb⟩ := vm.two
  obtain ⟨t, rfl⟩ := va.strI
  obtain ⟨a, o, vs, k, rfl, g, c, d, vms⟩ := hll.get st vb
  obtain ⟨l, rfl, el⟩ := vms.strs
  refine SC.join ⟨o, g, c, k, d⟩ el ?_ fun t' k' => qw_same st _ (.strE rfl) q
  unfold JoinOk
  rw [Bool.not_eq_true']
  refine StrLaws.joinFits (B := 1000) (fun y hy => ?_) ?_
  · obtain ⟨z, hz, rfl⟩ := List.mem_map.mp hy
    have := mk_len z
    have := hb z hz
    omega
  · rw [mk_len, List.length_map]
    have h1 : ls.length * 1000 ≤ 1000 * 1000 := Nat.mul_le_mul_right _ hn
    have h2 : ls.length * sep.length ≤ 1000 * 1000 := Nat.mul_le_mul hn hs
    omega
theorem split1p {prog : Program} {w : World} {A : Around} {E : Value → Shared → Prop} {s : Shared} {x : Str} {t : Tok} {Q : Value → Shared → Prop} {y : Str} {u : Tok} (hy : (y.length == 0) = false)
    (hq : ∀ l tk, l.map (·.1) = Txt.split x y → Q (.ref s.heap.objs.size) { s with heap := s.heap.push { cls := .type "list", data := .seq (strValues l).toArray }, toks := tk })
    (hsz : x.length ≤ sizeLine) (hsz2 : (Builtin.Str.partsBetween x (Builtin.Str.occurrences x y 0 x.length (x.length + 1)) y.length).length ≤ sizeLine) :
    wpAny (model prog w) A (call (.builtin "str.split") [.str x t, .str y u]) Q E s := by
  cases h1 : (decide (x.length < y.length) || decide (Builtin.Str.strKind x < Builtin.Str.strKind y))
  · cases hf : (Builtin.Str.occurrences x y 0 x.length (x.length + 1)).isEmpty
    · refine call_meets F.slot_str_split (typeIs_str _ _ _) F.entry_str_split (F.args_str_split_2 _ _) (meets_str_split_sep x y t u h1 hy hf hsz hsz2) ?_
      show wants Q E _ { s with toks := _, heap := s.heap.push { cls := .type "list", data := .seq (strsFrom s.toks (Builtin.Str.partsBetween x (Builtin.Str.occurrences x y 0 x.length (x.length + 1)) y.length)).toArray } }
      rw [strsFrom_eq]
      exact hq (numbered s.toks _) _ ((numbered_texts _ _).trans ((if_neg (ne_true_of_eq_false h1)).trans (if_neg (ne_true_of_eq_false hf))).symm)
    · exact call_meets F.slot_str_split (typeIs_str _ _ _) F.entry_str_split (F.args_str_split_2 _ _) (meets_str_split_not_found x y t u h1 hy hf)
        (hq [(x, t)] s.toks ((if_neg (ne_true_of_eq_false h1)).trans (if_pos hf)).symm)
  · exact call_meets F.slot_str_split (typeIs_str _ _ _) F.entry_str_split (F.args_str_split_2 _ _) (meets_str_split_cannot_occur x y t u h1)
      (hq [(x, t)] s.toks (if_pos h1).symm)
theorem parts_len (x : Str) (cuts : List Nat) (w : Nat) : (Builtin.Str.partsBetween x cuts w).length = cuts.length + 1 := by
  unfold Builtin.Str.partsBetween; simp
theorem c_split {x y : List Nat} (hx : x.length ≤ 10000) (hy : y ≠ []) (q : Q (.lst ((splitL x y).map .str)) σ) : Call X (.builtin "str.split") [.str x, .str y] σ Q E := fun vs s st vm => by
  obtain ⟨v, w, rfl, va, vb⟩ := vm.two
  obtain ⟨t, rfl⟩ := va.strI
  obtain ⟨u, rfl⟩ := vb.strI
  have hl := StrLaws.occ_length_le (mk x) (mk y) 0 (mk x).length ((mk x).length + 1)
  rw [mk_len] at hl
  refine split1p (by rw [mk_len]; cases y with | nil => exact absurd rfl hy | cons _ _ => rfl) (fun l tk el => ?_) (by rw [mk_len, sizeLine_eq]; omega) (by rw [parts_len, sizeLine_eq]; show (Builtin.Str.occurrences (mk x) (mk y) 0 (mk x).length ((mk x).length + 1)).length + 1 ≤ _; rw [mk_len]; omega)
  have P : Post X σ s σ { s with heap := s.heap.push { cls := .type "list", data := .seq (strValues l).toArray }, toks := tk } := Post.keeps st _ tk rfl fun _ _ e => Heap.get?_push_of_some _ e
  refine ⟨_, σ, P, .lst (Heap.get?_push_size _ rfl) rfl rfl (new_off st) ?_, q⟩
  have := strs_VMs (mu := σ.mu) (h := s.heap.push { cls := .type "list", data := .seq (strValues l).toArray }) l
  rw [el] at this
  unfold splitL
  rw [List.map_map]
  exact this
theorem c_count {x y : List Nat} (q : Q (.int (countL x y)) σ) : Call X (.builtin "str.count") [.str x, .str y] σ Q E := fun vs s st vm => by
  obtain ⟨v, w, rfl, va, vb⟩ := vm.two
  obtain ⟨t, rfl⟩ := va.strI
  obtain ⟨u, rfl⟩ := vb.strI
  exact SC.count (qw_same st _ (.int _ _) q)
theorem c_sum {ns : List Int} (ok : Ok X n) (hc : X.ctx = none) (q : Q (.int ns.sum) σ) : Call X (.builtin "sum") [.lst (ns.map .int)] σ Q E := fun vs s st vm => by
  obtain ⟨v, rfl, va⟩ := vm.one
  obtain ⟨a, o, vs, k, rfl, g, c, d, nm, vms⟩ := va.lstI
  have hA : X.A.handled = none := by rw [ok.handled, hc]; rfl
  have ia := vms.intsI
  refine call_sum_walkG (wpAny_pyIter_list (items := vs.toArray) ⟨o, g, c, k, d⟩ ?_)
  have ga := Heap.get?_push_of_some { cls := .type "list_iterator", data := .fields #[.ref a, .int 0 0] } g
  have ne : a ≠ s.heap.objs.size := Nat.ne_of_lt (Heap.lt_size g)
  have P := st_push st { cls := .type "list_iterator", data := .fields #[.ref a, .int 0 0] }
  refine ⟨_, [s.heap.objs.size, a], [s.heap.objs.size], vs.toArray.size, fun i v => vs.toArray[i]? = some v, fun i h => h.IsListIter s.heap.objs.size a i ∧ h.IsList a vs.toArray, fun i => ns.getD i 0, rfl, Walks.list (A := X.A.in1) hA _ _ ne _,
    ⟨⟨_, Heap.get?_push_size _ rfl, rfl, rfl⟩, ⟨o, ga, c, k, d⟩⟩, fun b hb => ?_, fun i v e => ?_, fun h' tk t' hk => ?_⟩
  · rw [Heap.size_push]
    rcases List.mem_cons.mp hb with rfl | hb
    · exact Nat.lt_succ_self _
    · rw [List.mem_singleton.mp hb]; exact Nat.lt_succ_of_lt (Heap.lt_size g)
  · have e' : vs[i]? = some v := by simpa using e
    obtain ⟨dv, e2, vm'⟩ := vms.get' e'
    rw [List.getElem?_map] at e2
    cases hn : ns[i]? with
    | none => rw [hn] at e2; cases e2
    | some z =>
      rw [hn] at e2
      cases e2
      cases vm'
      exact ⟨_, by show _ = Value.int (ns.getD i 0) _; rw [List.getD_eq_getElem?_getD, hn]; rfl⟩
  · have e1 : preSum (fun i => ns.getD i 0) vs.toArray.size = ns.sum := by
      rw [PyProof.Rows.preSum_getD]
      rw [List.size_toArray, vms.length, List.length_map, List.take_of_length_le (Nat.le_refl _)]
    rw [e1]
    have nf := new_facts st
    refine ⟨_, σ, P.trans (post_slots (bad := [s.heap.objs.size]) P.st (fun b o g' _ nb => hk b o nb g') (fun b o g' nfd => ⟨o.slots, hk b o (fun hb => ?_) g'⟩) fun b hb => ?_), .int _ _, q⟩
    · rw [List.mem_singleton.mp hb] at g'
      have := Heap.get?_push_size s.heap (o := { cls := .type "list_iterator", data := .fields #[.ref a, .int 0 0] }) rfl
      have g2 : (s.heap.push { cls := .type "list_iterator", data := .fields #[.ref a, .int 0 0] }).get? s.heap.objs.size = some o := g'
      rw [this] at g2; cases g2; exact nfd _ rfl
    · rw [List.mem_singleton.mp hb]; exact ⟨⟨nf.1, nf.2.1⟩, nf.2.2, _, _, Heap.get?_push_size _ rfl, rfl⟩
theorem s_lstItem {dl : V} {ds : List V} {k : Nat} {d : V} {value slice : Expr} (hll : Lst σ dl ds) (hk : k ≤ 100000) (e : ds[k]? = some d) (q : Q d σ)
    (hs : ∀ l i u, subscripted slice false (.ref l) (.int i u) = operate [.ref l, .int i u] (getItem (.ref l) (.int i u))) : Op2 X (subscriptTail value slice) dl (.int k) σ Q E := fun v w s st va wb => by
  obtain ⟨a, o, vs, m, rfl, g, c, d', vms⟩ := hll.get st va
  obtain ⟨_, rfl⟩ := wb.intI
  obtain ⟨v, e2, vm⟩ := vms.get e
  have hl : s.heap.IsList a vs.toArray := ⟨o, g, c, m, d'⟩
  exact tail_any hl.typeIs slot_list_getitem.lookup (wpAny_getItem_list (x := v) hl (by omega) (by omega) (by simpa using e2) (qw_self st vm q)) (hs _ _ _)
end
end
end Mine
namespace Mine
open PySem PySem.W PySem.Calls PySem.Spec PyProof.Rows
section
variable {X : Cx} {n : Nat} {σ : S} {E : Value → S → Prop}
noncomputable def StoN (X : Cx) (x : Str) (d : V) (σ σ' : S) : Prop := ∀ v s, St X σ s.heap → VM σ.mu s.heap v d → wpAny (model X.prog X.w) X.A (storeName X.env x v) (Qw X σ s RU (fun _ σ'' => σ'' = σ')) (fun _ _ => False) s
theorem sto_local {x : Str} {d : V} (ok : Ok X n) (hx : X.env.kindOf x = some .local) : StoN X x d σ { σ with loc := put σ.loc x d } := fun v s st vm =>
  wpAny_mono (store_local (E := fun _ _ => False) (Q := fun _ σ'' => σ'' = { σ with loc := put σ.loc x d }) ok hx rfl (Post.refl st) vm) (fun _ _ z => z) fun _ _ z => by obtain ⟨_, _, _, _, _, _, z⟩ := z; exact z
inductive CellQ (hp : Addr → Option HO) (c : Addr) (P : Prop) : Prop
  | mk (v₀ : Option V) (e : hp c = some (.cell v₀)) (q : P)
end
end Mine
namespace Mine
open PySem PySem.W PySem.Calls PySem.Spec PyProof.Rows
section
variable {X : Cx} {n : Nat} {σ : S} {E : Value → S → Prop}
noncomputable def Cx.comp (X : Cx) (cenv : Env) : Cx := { X with env := cenv }
structure CEnv (X : Cx) (cenv : Env) : Prop where
  kind : cenv.scope.kind = .function
  glob : cenv.globals = X.env.globals
  bult : cenv.builtins = X.env.builtins
  frame : cenv.frame = X.env.frame
theorem ok_comp {cenv : Env} (ok : Ok X n) (c : CEnv X cenv) (ha : X.base.objs.size ≤ cenv.locals) (hp : cenv.locals ∉ X.prot) : Ok (X.comp cenv) n :=
  ⟨ok.inK, ok.top, ok.frames, ok.frame, c.frame.trans ok.eframe, c.kind, c.glob.trans ok.genv, c.bult.trans ok.benv, ha, hp, ok.handled, ok.ctxIn, ok.depth, ok.units⟩
theorem st_comp {cenv : Env} {h h₀ : Heap} {m : Str → Option Value} {loc0 : List (Str × V)} (st : St X σ h) (hC : h.get? cenv.locals = none) (hn : h₀.Ns cenv.locals m) (k : ∀ b o, h.get? b = some o → h₀.get? b = some o)
    (hm : ∀ x d, lk loc0 x = some d → ∃ v, m x = some v ∧ VM σ.mu h v d) : St (X.comp cenv) ⟨loc0, σ.hp⟩ h₀ := by
  have x : Ext X.env.locals X.prot σ.mu h σ.mu h₀ := Ext.keeps st.protOff k
  refine ⟨fun b o e => k b o (st.base b o e), ⟨m, hn, fun y d e => let ⟨v, q, r⟩ := hm y d e; ⟨v, q, r.mono x⟩⟩, fun a o e => ?_, fun q => ?_, fun a ha => ?_, fun e he => ?_⟩
  · obtain ⟨y, z⟩ := st.own a o e
    obtain ⟨ob, g⟩ := y.there
    exact ⟨y.mono x ((k a ob g).trans g.symm), z⟩
  · cases e : σ.hp cenv.locals with
    | none => exact q e
    | some o => obtain ⟨ob, g⟩ := (st.own _ o e).1.there; rw [hC] at g; cases g
  · obtain ⟨z, o, vs, g, d⟩ := st.prot a ha
    exact ⟨z, o, vs, k a o g, d⟩
  · obtain ⟨z, L, o, es, ep, hfr, hb, hmu, g, d⟩ := st.frs e he
    exact ⟨z, L, o, es, ep, hfr, hb, hmu, k L o g, d⟩
theorem comp_back {cenv : Env} {s s₀ s' : Shared} {h' : Heap} {loc0 : List (Str × V)} {σ' : S} (st : St X σ s.heap) (hC : s.heap.get? cenv.locals = none) (k : ∀ b o, s.heap.get? b = some o → s₀.heap.get? b = some o) (he : ∃ h t, s₀ = { s with heap := h, toks := t })
    (P : Post (X.comp cenv) ⟨loc0, σ.hp⟩ s₀ σ' s') (hs : Heap.SameBut cenv.locals s'.heap h') : Post X σ s ⟨σ.loc, σ'.hp⟩ { s' with heap := h' } := by
  obtain ⟨h₁, t₁, rfl⟩ := he
  obtain ⟨h₂, tk', e⟩ := P.upd
  have ne : ∀ a o, s.heap.get? a = some o → a ≠ cenv.locals := fun a o g q => by rw [q, hC] at g; cases g
  have sb : ∀ b o, b ≠ cenv.locals → s'.heap.get? b = some o → h'.get? b = some o := fun b o n g => (hs.2 b n).trans g
  have cb : X.base.get? cenv.locals = none := by
    cases q : X.base.get? cenv.locals with
    | none => rfl
    | some o => have := st.base _ o q; rw [hC] at this; cases this
  have x : Ext X.env.locals X.prot σ.mu s.heap σ'.mu h' := ⟨fun a o g nm q => let ⟨g', n'⟩ := P.ext.seq a o (k a o g) nm q; ⟨sb a o (ne a o g) g', n'⟩, fun a o g nm l q => let ⟨n', sl, g'⟩ := P.ext.obj a o (k a o g) nm (ne a o g) q; ⟨n', sl, sb a _ (ne a o g) g'⟩,
    fun a ha o g => let ⟨g', n'⟩ := P.ext.watch a ha o (k a o g); ⟨sb a o (ne a o g) g', n'⟩⟩
  refine ⟨⟨h', tk', by rw [e]⟩, x, ⟨fun b o g => sb b o (fun q => by rw [q, cb] at g; cases g) (P.st.base b o g), ?_, fun a o g => ?_, ?_, fun a ha => ?_, fun e he => ?_⟩⟩
  · obtain ⟨m, hn, hm⟩ := st.names
    obtain ⟨o, es, ep, g, d, r⟩ := hn
    obtain ⟨_, sl, g'⟩ := P.ext.obj _ o (k _ o g) st.locOff (ne _ o g) fun vs q => by rw [d] at q; cases q
    exact ⟨m, ⟨_, es, ep, sb _ _ (ne _ o g) g', d, r⟩, fun y d e => let ⟨v, q, r⟩ := hm y d e; ⟨v, q, r.mono x⟩⟩
  · obtain ⟨y, z⟩ := P.st.own a o g
    have an : a ≠ cenv.locals := fun q => P.st.locOff (by show σ'.hp cenv.locals ≠ none; rw [← q, g]; exact Option.some_ne_none _)
    refine ⟨y.mono (L := cenv.locals) (prot := []) ⟨fun b ob gb nb qb => ⟨sb b ob (fun q => ?_) gb, nb⟩, fun b ob gb nb lb qb => ⟨nb, ob.slots, sb b ob lb gb⟩, fun b hb => nomatch hb⟩ (hs.2 a an), z⟩
    obtain ⟨m, ⟨o', es, ep, g', d', _⟩, _⟩ := P.st.names
    have g'' : s'.heap.get? cenv.locals = some o' := g'
    rw [← q, gb] at g''; cases g''; rw [d'] at qb; exact qb
  · obtain ⟨m, ⟨o, es, ep, g, d, r⟩, hm⟩ := st.names
    exact (P.ext.obj _ o (k _ o g) st.locOff (ne _ o g) fun vs q => by rw [d] at q; cases q).1
  · obtain ⟨z, o, vs, g, d⟩ := P.st.prot a ha
    refine ⟨z, o, vs, sb a o (fun q => ?_) g, d⟩
    obtain ⟨m, ⟨o', es, ep, g', d', _⟩, _⟩ := P.st.names
    have g'' : s'.heap.get? cenv.locals = some o' := g'
    rw [← q, g] at g''; cases g''; rw [d'] at d; cases d.1
  · obtain ⟨z, L, o, es, ep, hfr, hb, hmu, g, d⟩ := P.st.frs e he
    obtain ⟨_, L', o', es', ep', hf', hb', hm', g', d'⟩ := st.frs e he
    rw [hfr] at hf'; cases hf'
    exact ⟨z, L, o, es, ep, hfr, hb, hmu, sb L o (ne L o' g') g, d⟩
noncomputable abbrev F0 : Value → S → Prop := fun _ _ => False
theorem Ew.elim0 {X : Cx} {σ : S} {s s' : Shared} {e : Value} {P : Prop} (h : Ew X σ s F0 e s') : P := by obtain ⟨_, _, _, _, _, _, z⟩ := h; exact z.elim
noncomputable def tests (ifs : List Expr) (env : Env) : Sem Bool := forIn ifs true fun c r => if r = true then do let ok ← isTrue c env (eval c env); pure (ForInStep.yield ok) else pure (ForInStep.yield r)
theorem CT_nil {Q : Bool → S → Prop} (q : Q true σ) : W X (tests [] X.env) RB σ Q E := fun _ st => wpAny_pure (qw_self st rfl q)
noncomputable def accOf (keep : Nat → Bool) (es : Nat → V) (i : Nat) : List V := ((List.range i).filter keep).map es
theorem accOf_succ (keep : Nat → Bool) (es : Nat → V) (i : Nat) : accOf keep es (i + 1) = if keep i then accOf keep es i ++ [es i] else accOf keep es i := by
  unfold accOf
  rw [List.range_succ, List.filter_append]
  cases h : keep i <;> simp [h]
theorem accOf_len (keep : Nat → Bool) (es : Nat → V) (i : Nat) : (accOf keep es i).length ≤ i := by
  unfold accOf
  rw [List.length_map]
  exact Nat.le_trans (List.length_filter_le _ _) (by simp)
end
end Mine
namespace Mine
open PySem PySem.W PySem.Calls PySem.Spec PyProof.Rows
section
variable {X : Cx} {n : Nat} {σ : S} {E : Value → S → Prop}
theorem post_pair {s : Shared} {h' : Heap} {tk : Nat} {wr to : List Addr} (st : St X σ s.heap) (hT : ∀ b ∈ to, σ.hp b = some .pair) (kk : ∀ b o, b ∉ wr → b ∉ to → s.heap.get? b = some o → h'.get? b = some o) (hp' : ∀ b ∈ to, ∃ x y : Value, h'.get? b = some { cls := .type "tuple", data := .seq #[x, y] })
    (hb : ∀ b ∈ wr, (X.base.get? b = none ∧ ¬ σ.mu b) ∧ b ∉ X.prot ∧ ∃ o vs, s.heap.get? b = some o ∧ o.data = .fields vs) : Post X σ s σ { s with heap := h', toks := tk } := by
  have nb : ∀ b o, s.heap.get? b = some o → (∀ vs, o.data ≠ .fields vs) → b ∉ wr := fun b o g q hm => by
    obtain ⟨_, _, o', vs, g', d⟩ := hb b hm
    rw [g] at g'; cases g'; exact q _ d
  have nT : ∀ b, ¬ σ.mu b → b ∉ to := fun b nm e => nm (by show σ.hp b ≠ none; rw [hT b e]; exact Option.some_ne_none _)
  have x : Ext X.env.locals X.prot σ.mu s.heap σ.mu h' := by
    refine ⟨fun a o g nm q => ⟨kk a o (nb a o g fun vs d => ?_) (nT a nm) g, nm⟩, fun a o g nm _ q => ⟨nm, o.slots, kk a o (nb a o g q) (nT a nm) g⟩, fun a ha o g => ?_⟩
    · rw [d] at q; exact q
    · obtain ⟨z, _⟩ := st.prot a ha
      exact ⟨kk a o (fun hm => (hb a hm).2.1 ha) (nT a z) g, z⟩
  refine ⟨⟨h', tk, rfl⟩, x, ⟨fun b o e => kk b o (fun hm => ?_) (fun q => ?_) (st.base b o e), ?_, fun a o e => ?_, st.locOff, fun a ha => ?_, fun e he => ?_⟩⟩
  · have := (hb b hm).1.1; rw [e] at this; cases this
  · have := (st.own b _ (hT b q)).2; rw [e] at this; cases this
  · obtain ⟨m, ⟨oL, es, ep, gL, dL, r⟩, hm⟩ := st.names
    exact ⟨m, ⟨oL, es, ep, kk _ _ (nb _ _ gL fun vs q => by rw [dL] at q; cases q) (nT _ st.locOff) gL, dL, r⟩, fun y d e => let ⟨v, q, r⟩ := hm y d e; ⟨v, q, r.mono x⟩⟩
  · obtain ⟨y, z⟩ := st.own a o e
    by_cases ha : a ∈ to
    · rw [hT a ha] at e; cases e; exact ⟨hp' a ha, z⟩
    · obtain ⟨ob, g⟩ := y.there
      exact ⟨y.mono x ((kk a ob (fun hm => (hb a hm).1.2 (by show σ.hp a ≠ none; rw [e]; exact Option.some_ne_none _)) ha g).trans g.symm), z⟩
  · obtain ⟨z, o', vs, g', d⟩ := st.prot a ha
    exact ⟨z, o', vs, (x.watch a ha o' g').1, d⟩
  · obtain ⟨z, L, o, es, ep, hf, hn, hm, g, d⟩ := st.frs e he
    exact ⟨z, L, o, es, ep, hf, hn, hm, kk L o (nb L o g fun vs q => by rw [d] at q; cases q) (nT L hm) g, d⟩
noncomputable def drp (to : List Addr) (hp : Addr → Option HO) : Addr → Option HO := fun a => if a ∈ to then none else hp a
theorem drp_nil (hp : Addr → Option HO) : drp [] hp = hp := funext fun _ => if_neg List.not_mem_nil
theorem drp_in {to : List Addr} {hp : Addr → Option HO} {a : Addr} (h : a ∈ to) : drp to hp a = none := if_pos h
theorem drp_out {to : List Addr} {hp : Addr → Option HO} {a : Addr} (h : a ∉ to) : drp to hp a = hp a := if_neg h
theorem post_pairD {s : Shared} {h' : Heap} {tk : Nat} {wr to : List Addr} (st : St X σ s.heap) (hT : ∀ b ∈ to, σ.hp b = some .pair) (kk : ∀ b o, b ∉ wr → b ∉ to → s.heap.get? b = some o → h'.get? b = some o)
    (hb : ∀ b ∈ wr, (X.base.get? b = none ∧ ¬ σ.mu b) ∧ b ∉ X.prot ∧ ∃ o vs, s.heap.get? b = some o ∧ o.data = .fields vs) : Post X σ s ⟨σ.loc, drp to σ.hp⟩ { s with heap := h', toks := tk } := by
  have nb : ∀ b o, s.heap.get? b = some o → (∀ vs, o.data ≠ .fields vs) → b ∉ wr := fun b o g q hm => by
    obtain ⟨_, _, o', vs, g', d⟩ := hb b hm
    rw [g] at g'; cases g'; exact q _ d
  have nT : ∀ b, ¬ σ.mu b → b ∉ to := fun b nm e => nm (by show σ.hp b ≠ none; rw [hT b e]; exact Option.some_ne_none _)
  have nmu : ∀ b, ¬ σ.mu b → ¬ S.mu ⟨σ.loc, drp to σ.hp⟩ b := fun b nm z => nm (by
    have z' : drp to σ.hp b ≠ none := z
    rw [drp_out (nT b nm)] at z'; exact z')
  have x : Ext X.env.locals X.prot σ.mu s.heap (S.mu ⟨σ.loc, drp to σ.hp⟩) h' := by
    refine ⟨fun a o g nm q => ⟨kk a o (nb a o g fun vs d => ?_) (nT a nm) g, nmu a nm⟩, fun a o g nm _ q => ⟨nmu a nm, o.slots, kk a o (nb a o g q) (nT a nm) g⟩, fun a ha o g => ?_⟩
    · rw [d] at q; exact q
    · obtain ⟨z, _⟩ := st.prot a ha
      exact ⟨kk a o (fun hm => (hb a hm).2.1 ha) (nT a z) g, nmu a z⟩
  refine ⟨⟨h', tk, rfl⟩, x, ⟨fun b o e => kk b o (fun hm => ?_) (fun q => ?_) (st.base b o e), ?_, fun a o e => ?_, nmu _ st.locOff, fun a ha => ?_, fun e he => ?_⟩⟩
  · have := (hb b hm).1.1; rw [e] at this; cases this
  · have := (st.own b _ (hT b q)).2; rw [e] at this; cases this
  · obtain ⟨m, ⟨oL, es, ep, gL, dL, r⟩, hm⟩ := st.names
    exact ⟨m, ⟨oL, es, ep, kk _ _ (nb _ _ gL fun vs q => by rw [dL] at q; cases q) (nT _ st.locOff) gL, dL, r⟩, fun y d e => let ⟨v, q, r⟩ := hm y d e; ⟨v, q, r.mono x⟩⟩
  · have e' : drp to σ.hp a = some o := e
    have ha : a ∉ to := fun q => by rw [drp_in q] at e'; cases e'
    rw [drp_out ha] at e'
    obtain ⟨y, z⟩ := st.own a o e'
    obtain ⟨ob, g⟩ := y.there
    exact ⟨y.mono x ((kk a ob (fun hm => (hb a hm).1.2 (by show σ.hp a ≠ none; rw [e']; exact Option.some_ne_none _)) ha g).trans g.symm), z⟩
  · obtain ⟨z, o', vs, g', d⟩ := st.prot a ha
    exact ⟨nmu a z, o', vs, (x.watch a ha o' g').1, d⟩
  · obtain ⟨z, L, o, es, ep, hf, hn, hm, g, d⟩ := st.frs e he
    exact ⟨z, L, o, es, ep, hf, hn, nmu L hm, kk L o (nb L o g fun vs q => by rw [d] at q; cases q) (nT L hm) g, d⟩
inductive ItG (X : Cx) (σ : S) (h : Heap) (J : Addr) (tg : Expr) (N : Nat) (P : Nat → (Addr → Prop) → Heap → Value → Prop) (to : List Addr) : Prop
  | mk (wr : List Addr) (SS : Nat → Heap → Prop) (Mid : Nat → Value → Heap → Prop)
    (next : ∀ A' : Around, A'.handled = none → ∀ i (s : Shared) (Q : Option Value → Shared → Prop) (E' : Value → Shared → Prop), i < N → SS i s.heap → (∀ v h' tk, Mid i v h' → (∀ b o, b ∉ wr → b ∉ to → s.heap.get? b = some o → h'.get? b = some o) → Q (some v) { s with heap := h', toks := tk }) → wpAny (model X.prog X.w) A' (pyNext (.ref J)) Q E' s)
    (go : ∀ A' : Around, A'.handled = none → ∀ i v (s : Shared) (Q : Unit → Shared → Prop) (E' : Value → Shared → Prop), Mid i v s.heap → (∀ h', SS (i + 1) h' → (∀ b o, b ∉ wr → b ∉ to → s.heap.get? b = some o → h'.get? b = some o) → Q () { s with heap := h' }) → wpAny (model X.prog X.w) A' (letOwnedTupleGo tg (.ref J) v) Q E' s)
    (done : ∀ A' : Around, A'.handled = none → ∀ (s : Shared) (Q : Option Value → Shared → Prop) (E' : Value → Shared → Prop), SS N s.heap → (∀ h' tk, (∀ b o, b ∉ wr → b ∉ to → s.heap.get? b = some o → h'.get? b = some o) → Q none { s with heap := h', toks := tk }) → wpAny (model X.prog X.w) A' (pyNext (.ref J)) Q E' s)
    (self : ∀ A' : Around, A'.handled = none → ∀ i (s : Shared) (Q : Value → Shared → Prop) (E' : Value → Shared → Prop), SS i s.heap → Q (.ref J) s → wpAny (model X.prog X.w) A' (pyIter (.ref J)) Q E' s)
    (st0 : SS 0 h) (hrec : ∀ i h', SS i h' → ∀ b ∈ wr, ∃ o vs, h'.get? b = some o ∧ o.data = .fields vs) (hrec2 : ∀ i v h', Mid i v h' → ∀ b ∈ wr, ∃ o vs, h'.get? b = some o ∧ o.data = .fields vs)
    (hpr : ∀ i h', SS i h' → ∀ b ∈ to, ∃ x y : Value, h'.get? b = some { cls := .type "tuple", data := .seq #[x, y] }) (hpr2 : ∀ i v h', Mid i v h' → ∀ b ∈ to, ∃ x y : Value, h'.get? b = some { cls := .type "tuple", data := .seq #[x, y] })
    (hwr : ∀ b ∈ wr, X.base.get? b = none ∧ ¬ σ.mu b ∧ b ∉ X.prot)
    (keep : ∀ i h₁ mu₁ h₂, SS i h₁ → SeqX σ.mu h mu₁ h₁ → (∀ a o, h₁.get? a = some o → ¬ mu₁ a → isSeq o.data → h₂.get? a = some o) → (∀ b ∈ wr, ∀ o, h₁.get? b = some o → h₂.get? b = some o) → (∀ b ∈ to, ∃ x y : Value, h₂.get? b = some { cls := .type "tuple", data := .seq #[x, y] }) → SS i h₂)
    (val : ∀ i v mu' h₁ h₂, i < N → Mid i v h₁ → SeqX σ.mu h mu' h₂ → (∀ b o, b ∉ wr → b ∉ to → h₁.get? b = some o → h₂.get? b = some o) → P i mu' h₂ v)
theorem keep_of {fp wr : List Addr} {SS : Nat → Heap → Prop} {h : Heap} (frame : ∀ i h h', SS i h → (∀ b ∈ fp, ∀ o, h.get? b = some o → h'.get? b = some o) → SS i h') (hfp : ∀ b ∈ fp, b ∉ wr → ¬ σ.mu b ∧ ∃ o, h.get? b = some o ∧ isSeq o.data) :
    ∀ i h₁ mu₁ h₂, SS i h₁ → SeqX σ.mu h mu₁ h₁ → (∀ a o, h₁.get? a = some o → ¬ mu₁ a → isSeq o.data → h₂.get? a = some o) → (∀ b ∈ wr, ∀ o, h₁.get? b = some o → h₂.get? b = some o) → SS i h₂ := fun i h₁ mu₁ h₂ st x k1 k2 => by
  refine frame _ _ _ st fun b hb o g => ?_
  by_cases hw : b ∈ wr
  · exact k2 b hw o g
  · obtain ⟨nm, o₀, g₀, q₀⟩ := hfp b hb hw
    obtain ⟨g₁, nm₁⟩ := x b o₀ g₀ nm q₀
    rw [g] at g₁; cases g₁
    exact k1 b _ g nm₁ q₀
noncomputable abbrev PN (ds : Nat → V) (i : Nat) (mu : Addr → Prop) (h : Heap) (v : Value) : Prop := VM mu h v (ds i)
inductive PT (d1 d2 : Nat → V) (i : Nat) (mu : Addr → Prop) (h : Heap) (v : Value) : Prop
  | mk (T : Addr) (v1 v2 : Value) (e : v = .ref T) (ht : h.IsTuple T #[v1, v2]) (m1 : VM mu h v1 (d1 i)) (m2 : VM mu h v2 (d2 i))
theorem Iter.toG {h : Heap} {J N : Nat} {ds : Nat → V} {x : Str} {tp : Pos} (IT : Iter X σ h J N ds) : ItG X σ h J (.Name x tp) N (PN ds) [] := by
  obtain ⟨fp, wr, PP, SS, hW, st0, hrec, hwr, hfp, hvm⟩ := IT
  have kp := keep_of (hW ⟨none, 0, none, none, 0⟩ rfl).frame hfp
  refine ⟨wr, SS, fun i v h' => SS (i + 1) h' ∧ PP i v, fun A' hA i s Q E' hi st q => (hW A' hA).item i s _ _ hi st fun w h' tk pv st' kk => q w h' tk ⟨st', pv⟩ fun b o h1 _ => kk b o h1, fun A' hA i v s Q E' m q => wpAny_pure (q s.heap m.1 fun _ _ _ _ e => e), fun A' hA s Q E' st q => (hW A' hA).done s _ _ st fun h' tk kk => q h' tk fun b o h1 _ => kk b o h1,
    fun A' hA i s Q E' st q => (hW A' hA).self i s _ _ st q, st0, hrec, fun i v h' m => hrec _ _ m.1, (fun _ _ _ b hb => nomatch hb), (fun _ _ _ _ b hb => nomatch hb), hwr, fun i h₁ mu₁ h₂ a b c d _ => kp i h₁ mu₁ h₂ a b c d, fun i v mu' h₁ h₂ hi m x _ => hvm i v mu' h₂ hi m.2 x⟩
theorem IterT.toG {h : Heap} {J N : Nat} {d1 d2 : Nat → V} {es : List Expr} {k : Nat} {tp : Pos} (IT : IterT X σ h J N d1 d2) : ItG X σ h J (.Tuple es k tp) N (PT d1 d2) [] := by
  obtain ⟨fp, wr, PP, SS, MM, hW, st0, hrec, hrec2, hwr, hfp, hvm⟩ := IT
  have kp := keep_of (hW ⟨none, 0, none, none, 0⟩ rfl).frame hfp
  refine ⟨wr, SS, fun i v h' => ∃ T vals, v = .ref T ∧ h'.IsTuple T vals ∧ MM i T h' ∧ PP i vals ∧ T ∉ wr, fun A' hA i s Q E' hi st q => (hW A' hA).item i s _ _ hi st fun T vals h' tk pv hT hM kk => q _ h' tk ⟨T, vals, rfl, hT, hM, pv, (hW A' hA).apart _ _ _ hM⟩ fun b o h1 _ => kk b o h1, fun A' hA i v s Q E' m q => ?_, fun A' hA s Q E' st q => (hW A' hA).done s _ _ st fun h' tk kk => q h' tk fun b o h1 _ => kk b o h1,
    fun A' hA i s Q E' st q => (hW A' hA).self i s _ _ st q, st0, hrec, fun i v h' m => by obtain ⟨T, vals, _, _, hM, _⟩ := m; exact hrec2 _ _ _ hM, (fun _ _ _ b hb => nomatch hb), (fun _ _ _ _ b hb => nomatch hb), hwr, fun i h₁ mu₁ h₂ a b c d _ => kp i h₁ mu₁ h₂ a b c d, fun i v mu' h₁ h₂ hi m x k => ?_⟩
  · obtain ⟨T, vals, rfl, _, hM, _⟩ := m
    exact (hW A' hA).go _ _ _ i T s _ _ hM fun h' st kk => q h' st fun b o h1 _ => kk b o h1
  · obtain ⟨T, vals, rfl, ⟨o, g, c, n, d⟩, hM, pv, hw⟩ := m
    obtain ⟨v1, v2, rfl, m1, m2⟩ := hvm i vals mu' h₂ hi pv x
    exact ⟨T, v1, v2, rfl, ⟨o, k T o hw List.not_mem_nil g, c, n, d⟩, m1, m2⟩
theorem ItG.grow {σ' : S} {cenv : Env} {h h' : Heap} {J N : Nat} {tg : Expr} {P : Nat → (Addr → Prop) → Heap → Value → Prop} {to : List Addr} (IT : ItG X σ h J tg N P to) (k : ∀ b o, h.get? b = some o → h'.get? b = some o) (hm : ∀ b o, h.get? b = some o → ¬ σ.mu b → ¬ σ'.mu b) : ItG (X.comp cenv) σ' h' J tg N P to := by
  obtain ⟨wr, SS, Mid, next, go, done, self, st0, hrec, hrec2, hpr, hpr2, hwr, keep, val⟩ := IT
  have up : ∀ mu₁ h₁, SeqX σ'.mu h' mu₁ h₁ → SeqX σ.mu h mu₁ h₁ := fun mu₁ h₁ x a o g nm q => x a o (k a o g) (hm a o g nm) q
  refine ⟨wr, SS, Mid, next, go, done, self, keep 0 h σ.mu h' st0 (fun a o g nm _ => ⟨g, nm⟩) (fun a o g _ _ => k a o g) (fun b _ o g => k b o g) (fun b hb => ?_), hrec, hrec2, hpr, hpr2, fun b hb => ?_, fun i h₁ mu₁ h₂ st x => keep i h₁ mu₁ h₂ st (up _ _ x), fun i v mu' h₁ h₂ hi m x => val i v mu' h₁ h₂ hi m (up _ _ x)⟩
  · obtain ⟨x, y, g⟩ := hpr _ _ st0 b hb
    exact ⟨x, y, k _ _ g⟩
  · obtain ⟨o, vs, g, d⟩ := hrec _ _ st0 b hb
    exact ⟨(hwr b hb).1, hm b o g (hwr b hb).2.1, (hwr b hb).2.2⟩
noncomputable def Asg (X : Cx) (tg : Expr) (P : (Addr → Prop) → Heap → Value → Prop) (σ σ' : S) : Prop := ∀ v s, St X σ s.heap → P σ.mu s.heap v → wpAny (model X.prog X.w) X.A (assign tg X.env v) (Qw X σ s RU (fun _ σ'' => σ'' = σ')) (fun _ _ => False) s
theorem asg_name {x : Str} {tp : Pos} {ds : Nat → V} {i : Nat} {σ' : S} (h : StoN X x (ds i) σ σ') : Asg X (.Name x tp) (PN ds i) σ σ' := fun v s st p => wpAny_assign_Name (h v s st p)
theorem asg_pair {x1 x2 : Str} {k : Nat} {tp p1 p2 : Pos} {d1 d2 : Nat → V} {i : Nat} {σ₁ σ₂ : S} (ok : Ok X n) (hc : X.ctx = none) (h1 : StoN X x1 (d1 i) σ σ₁) (h2 : StoN X x2 (d2 i) σ₁ σ₂) : Asg X (.Tuple [.Name x1 p1, .Name x2 p2] k tp) (PT d1 d2 i) σ σ₂ := fun v s st p => by
  obtain ⟨T, v1, v2, rfl, ht, m1, m2⟩ := p
  have hA : X.A.handled = none := by rw [ok.handled, hc]; rfl
  refine wpAny_assign_Tuple hA ht rfl rfl fun h₃ hx₃ => ?_
  have P₁ : Post X σ s σ { s with heap := h₃ } := Post.keeps st h₃ s.toks rfl fun b o g => hx₃ b o (Nat.ne_of_lt (Heap.lt_size g)) g
  show wpAny _ _ (do holding [v2] (assign (.Name x1 p1) X.env v1); do holding [] (assign (.Name x2 p2) X.env v2); pure ()) _ _ _
  refine wpAny_bind (wpAny_holding (wpAny_assign_Name (wpAny_mono (h1 v1 _ P₁.st (m1.mono P₁.ext)) (fun _ s₃ z => ?_) fun _ _ z => z)))
  obtain ⟨_, _, P₂, _, rfl⟩ := z
  refine wpAny_bind (wpAny_holding (wpAny_assign_Name (wpAny_mono (h2 v2 _ P₂.st ((m2.mono P₁.ext).mono P₂.ext)) (fun _ s₄ z => ?_) fun _ _ z => z)))
  obtain ⟨_, _, P₃, _, rfl⟩ := z
  exact wpAny_pure ⟨(), _, (P₁.trans P₂).trans P₃, trivial, rfl⟩
inductive LoopG (X : Cx) (n : Nat) (σ₁ : S) (s₂ : Shared) (J : Addr) (tg : Expr) (N : Nat) (P : Nat → (Addr → Prop) → Heap → Value → Prop) (to : List Addr) : Prop
  | mk (wr : List Addr) (G : Nat → S → Shared → Prop) (g0 : G 0 σ₁ s₂) (gp : ∀ i σ' s', G i σ' s' → Post X σ₁ s₂ σ' s')
    (self : ∀ i σ' s' (Q : Value → Shared → Prop) (E' : Value → Shared → Prop), G i σ' s' → Q (.ref J) s' → wpAny (model X.prog X.w) X.A (pyIter (.ref J)) Q E' s')
    (next : ∀ i σ' s' σb (QB : Shared → Prop) (Z : Option Value → Shared → Prop) (E' : Value → Shared → Prop), i < N → G i σ' s' → (Ok (X.watch wr) n → Asg (X.watch wr) tg (P i) σ' σb) →
      (Ok (X.watch wr) n → ∀ s₃, Post X σ' s' σb s₃ → St (X.watch wr) σb s₃.heap → (∀ σ₄ s₄, Post (X.watch wr) σb s₃ σ₄ s₄ → (∀ b ∈ to, σ₄.hp b = some .pair) → G (i + 1) σ₄ s₄) → QB s₃) →
      (∀ v s₁, wpAny (model X.prog X.w) X.A (letOwnedTupleGo tg (.ref J) v) (fun _ s₁' => wpAny (model X.prog X.w) X.A (assign tg X.env v) (fun _ s₂ => QB s₂) E' s₁') E' s₁ → Z (some v) s₁) → wpAny (model X.prog X.w) X.A (pyNext (.ref J)) Z E' s')
    (done : ∀ σ' s' (Z : Option Value → Shared → Prop) (E' : Value → Shared → Prop), G N σ' s' → (∀ s₃, Post X σ' s' ⟨σ'.loc, drp to σ'.hp⟩ s₃ → Z none s₃) → wpAny (model X.prog X.w) X.A (pyNext (.ref J)) Z E' s')
theorem loopG {σ₁ : S} {s₂ : Shared} {J : Addr} {tg : Expr} {N : Nat} {P : Nat → (Addr → Prop) → Heap → Value → Prop} {to : List Addr} (ok : Ok X n) (hc : X.ctx = none) (IT : ItG X σ₁ s₂.heap J tg N P to) (hT : ∀ b ∈ to, σ₁.hp b = some .pair) (st : St X σ₁ s₂.heap) : LoopG X n σ₁ s₂ J tg N P to := by
  have hA : X.A.handled = none := by rw [ok.handled, hc]; rfl
  obtain ⟨wr, SS, Mid, next, go, done, self, st0, hrec, hrec2, hpr, hpr2, hwr, keep, val⟩ := IT
  refine ⟨wr, fun i σ' s' => Post X σ₁ s₂ σ' s' ∧ SS i s'.heap ∧ (∀ b ∈ wr, ¬ σ'.mu b) ∧ ∀ b ∈ to, σ'.hp b = some .pair, ⟨Post.refl st, st0, fun b hb => (hwr b hb).2.1, hT⟩, fun i σ' s' g => g.1, fun i σ' s' Q E' g q => self _ hA i s' _ _ g.2.1 q, fun i σ' s' σb QB Z E' hi g asg qb z => ?_, fun σ' s' Z E' g z => ?_⟩
  · obtain ⟨Pb, sti, hmu, hT'⟩ := g
    refine next _ hA i s' _ _ hi sti fun v h' tk mid kk => z _ _ ?_
    have Pc := post_pair (tk := tk) Pb.st hT' kk (hpr2 _ _ _ mid) fun b hb => ⟨⟨(hwr b hb).1, hmu b hb⟩, (hwr b hb).2.2, hrec i _ sti b hb⟩
    refine go _ hA i v _ _ _ mid fun h₂ st₂ kk₂ => ?_
    have Pd := post_pair (s := { s' with heap := h', toks := tk }) (tk := tk) Pc.st hT' kk₂ (hpr _ _ st₂) fun b hb => ⟨⟨(hwr b hb).1, hmu b hb⟩, (hwr b hb).2.2, hrec2 _ _ _ mid b hb⟩
    have Pcd := Pc.trans Pd
    have Pbd := Pb.trans Pcd
    have lw : X.env.locals ∉ wr := fun hb => by
      obtain ⟨o, vs, g, d⟩ := hrec _ _ st₂ _ hb
      obtain ⟨m, ⟨oL, es, ep, gL, dL, _⟩, _⟩ := Pd.st.names
      have gL' : h₂.get? X.env.locals = some oL := gL
      rw [g] at gL'; cases gL'; rw [d] at dL; cases dL
    have okw := ok_watch ok lw
    have stw : St (X.watch wr) σ' h₂ := st_watch hc Pd.st fun b hb => ⟨hmu b hb, hrec _ _ st₂ b hb⟩
    refine wpAny_mono (asg okw v { s' with heap := h₂, toks := tk } stw (val i v σ'.mu _ _ hi mid Pbd.ext.seq kk₂)) (fun _ s₃ q => ?_) fun _ _ q => q.elim
    obtain ⟨_, _, Pe, _, rfl⟩ := q
    refine qb okw s₃ (Pcd.trans (post_unwatch Pe)) Pe.st fun σ₄ s₄ Pf hT4 => ?_
    have Pef := Pe.trans Pf
    exact ⟨Pbd.trans (post_unwatch Pef), keep _ _ _ _ st₂ Pbd.ext.seq (fun a o g nm q => (Pef.ext.seq a o g nm q).1) (fun b hb o g => (Pef.ext.watch b (List.mem_append_left _ hb) o g).1) (fun b hb => (Pf.st.own b _ (hT4 b hb)).1), fun b hb => (Pf.st.prot b (List.mem_append_left _ hb)).1, hT4⟩
  · obtain ⟨Pb, sti, hmu, hT'⟩ := g
    exact done _ hA s' _ _ sti fun h' tk kk => z _ (post_pairD Pb.st hT' kk fun b hb => ⟨⟨(hwr b hb).1, hmu b hb⟩, (hwr b hb).2.2, hrec _ _ sti b hb⟩)
inductive ItAtG (X : Cx) (σ : S) (s : Shared) (tg : Expr) (one : Prop) (Q : Nat → (Nat → (Addr → Prop) → Heap → Value → Prop) → S → (Addr → Option HO) → Prop) (it : Value) (s₂ : Shared) : Prop
  | mk (J : Addr) (N : Nat) (P : Nat → (Addr → Prop) → Heap → Value → Prop) (σ₂ : S) (to : List Addr) (e : it = .ref J) (h1 : one → to = []) (hT : ∀ b ∈ to, σ₂.hp b = some .pair) (PP : Post X σ s σ₂ s₂) (IT : ItG X σ₂ s₂.heap J tg N P to) (q : Q N P σ₂ (drp to σ₂.hp))
noncomputable def WItG (X : Cx) (iter tg : Expr) (one : Prop) (σ : S) (Q : Nat → (Nat → (Addr → Prop) → Heap → Value → Prop) → S → (Addr → Option HO) → Prop) (E : Value → S → Prop) : Prop :=
  ∀ s, St X σ s.heap → wpAny (model X.prog X.w) X.A (eval iter X.env) (fun x s₁ => wpAny (model X.prog X.w) X.A (pyIter x) (ItAtG X σ s tg one Q) (Ew X σ s E) s₁) (Ew X σ s E) s
theorem WIt.toG {iter : Expr} {x : Str} {tp : Pos} {one : Prop} {Q : Nat → (Nat → (Addr → Prop) → Heap → Value → Prop) → S → (Addr → Option HO) → Prop} (h : WIt X iter σ (fun N ds σ₁ => Q N (PN ds) σ₁ σ₁.hp) E) : WItG X iter (.Name x tp) one σ Q E := fun s st =>
  wpAny_mono (h s st) (fun _ _ z => wpAny_mono z (fun _ _ z => by cases z with | mk J N ds σ₂ e PP IT q => exact ⟨J, N, _, σ₂, [], e, fun _ => rfl, (fun b hb => nomatch hb), PP, IT.toG, by rw [drp_nil]; exact q⟩) fun _ _ z => z) fun _ _ z => z
theorem WItT.toG {iter : Expr} {es : List Expr} {k : Nat} {tp : Pos} {one : Prop} {Q : Nat → (Nat → (Addr → Prop) → Heap → Value → Prop) → S → (Addr → Option HO) → Prop} (h : WItT X iter σ (fun N d1 d2 σ₁ => Q N (PT d1 d2) σ₁ σ₁.hp) E) : WItG X iter (.Tuple es k tp) one σ Q E := fun s st =>
  wpAny_mono (h s st) (fun _ _ z => wpAny_mono z (fun _ _ z => by cases z with | mk J N d1 d2 σ₂ e PP IT q => exact ⟨J, N, _, σ₂, [], e, fun _ => rfl, (fun b hb => nomatch hb), PP, IT.toG, by rw [drp_nil]; exact q⟩) fun _ _ z => z) fun _ _ z => z
theorem WX_ForG {tg iter : Expr} {body orelse : List Stmt} {pos : Pos} {Q : FV → S → Prop} (ok : Ok X n) (hc : X.ctx = none) (he : X.env = X.fenv) (I : Nat → S → Prop)
    (h : WItG X iter tg True σ (fun N P σ₁ _ => I 0 σ₁ ∧ (∀ i σ', i < N → I i σ' → ∃ σb, (∀ wr, Ok (X.watch wr) n → Asg (X.watch wr) tg (P i) σ' σb) ∧ ∀ wr, Ok (X.watch wr) n → WXs (X.watch wr) body σb (fun f σ₂ => match f with | .next => I (i + 1) σ₂ | .cont => I (i + 1) σ₂ | .brk => Q .next σ₂ | .ret d => Q (.ret d) σ₂) E) ∧
      (∀ σ', I N σ' → WXs X orelse σ' Q E)) E)
    (hs : ∀ env x, foldedSetIterable iter env x = pure x) : WX X (.For tg iter body orelse pos) σ Q E := fun s st => by
  refine wpAny_For (wpAny_mono (h s st) (fun _ _ z => wpAny_mono z (fun it s₂ hh => ?_) fun _ _ z => z) fun _ _ z => z) (hs _)
  obtain ⟨J, N, P, σ₁, to, rfl, h1, hT, P12, IT, i0, hbody, hfin⟩ := hh
  obtain rfl := h1 trivial
  obtain ⟨wr, G, g0, gp, self, next, done⟩ := loopG ok hc IT hT P12.st
  refine codeAny_forLoop_any (fun k s' => ∃ i σ', i + k = N ∧ G i σ' s' ∧ I i σ') (fun k s' hI => ?_) N ⟨0, σ₁, Nat.zero_add _, g0, i0⟩
  obtain ⟨i, σ', hik, g, inv⟩ := hI
  have Pa := P12.trans (gp _ _ _ g)
  by_cases hi : i < N
  · obtain ⟨σb, asg, hb⟩ := hbody i σ' hi inv
    refine next i σ' s' σb _ _ _ hi g (asg wr) (fun okw s₃ P₃ st₃ gn => ?_) fun v s₁ z => z
    refine wpAny_mono (hb wr okw s₃ st₃) (fun f s₄ z => ?_) fun e s₄ z => ?_
    · obtain ⟨gv, σ₄, Pe, r, q⟩ := z
      cases f <;> cases gv <;> first | exact r.elim | skip
      · exact ⟨k - 1, by omega, i + 1, σ₄, by omega, gn _ _ Pe (fun b hb => nomatch hb), q⟩
      · exact ⟨FV.next, σ₄, Pa.trans (P₃.trans (post_unwatch Pe)), trivial, q⟩
      · exact ⟨k - 1, by omega, i + 1, σ₄, by omega, gn _ _ Pe (fun b hb => nomatch hb), q⟩
      · exact ⟨_, σ₄, Pa.trans (P₃.trans (post_unwatch Pe)), r, q⟩
    · obtain ⟨ea, cls, σ₄, Pe, rfl, x, q⟩ := z
      exact noted_Ew ok he ⟨ea, cls, σ₄, Pa.trans (P₃.trans (post_unwatch Pe)), rfl, exc_unwatch x, q⟩
  · obtain rfl : i = N := by omega
    refine done σ' s' _ _ g fun s₃ P₃ => ?_
    rw [drp_nil] at P₃
    exact wpAny_mono ((hfin σ' inv).go (Pa.trans P₃)) (fun _ _ z => z) fun _ _ z => noted_Ew ok he z
theorem WX_For {x : Str} {tp : Pos} {iter : Expr} {body orelse : List Stmt} {pos : Pos} {Q : FV → S → Prop} (ok : Ok X n) (hc : X.ctx = none) (he : X.env = X.fenv) (hx : X.env.kindOf x = some .local) (I : Nat → S → Prop)
    (h : WIt X iter σ (fun N ds σ₁ => I 0 σ₁ ∧ (∀ i σ' wr, i < N → I i σ' → Ok (X.watch wr) n → WXs (X.watch wr) body { σ' with loc := put σ'.loc x (ds i) } (fun f σ₂ => match f with | .next => I (i + 1) σ₂ | .cont => I (i + 1) σ₂ | .brk => Q .next σ₂ | .ret d => Q (.ret d) σ₂) E) ∧
      (∀ σ', I N σ' → WXs X orelse σ' Q E)) E)
    (hs : ∀ env x, foldedSetIterable iter env x = pure x) : WX X (.For (.Name x tp) iter body orelse pos) σ Q E :=
  WX_ForG ok hc he I (WIt.toG fun s st => wpAny_mono (h s st) (fun _ _ z => wpAny_mono z (fun _ _ z => by cases z with | mk J N ds σ₂ e PP IT q => exact ⟨J, N, ds, σ₂, e, PP, IT, q.1, fun i σ' hi inv => ⟨_, fun wr okw => asg_name (sto_local okw hx), fun wr okw => q.2.1 i σ' wr hi inv okw⟩, q.2.2⟩) fun _ _ z => z) fun _ _ z => z) hs
theorem WX_ForT {x1 x2 : Str} {k : Nat} {tp p1 p2 : Pos} {iter : Expr} {body orelse : List Stmt} {pos : Pos} {Q : FV → S → Prop} (ok : Ok X n) (hc : X.ctx = none) (he : X.env = X.fenv) (hx1 : X.env.kindOf x1 = some .local) (hx2 : X.env.kindOf x2 = some .local) (I : Nat → S → Prop)
    (h : WItT X iter σ (fun N d1 d2 σ₁ => I 0 σ₁ ∧ (∀ i σ' wr, i < N → I i σ' → Ok (X.watch wr) n → WXs (X.watch wr) body { σ' with loc := put (put σ'.loc x1 (d1 i)) x2 (d2 i) } (fun f σ₂ => match f with | .next => I (i + 1) σ₂ | .cont => I (i + 1) σ₂ | .brk => Q .next σ₂ | .ret d => Q (.ret d) σ₂) E) ∧
      (∀ σ', I N σ' → WXs X orelse σ' Q E)) E)
    (hs : ∀ env x, foldedSetIterable iter env x = pure x) : WX X (.For (.Tuple [.Name x1 p1, .Name x2 p2] k tp) iter body orelse pos) σ Q E :=
  WX_ForG ok hc he I (WItT.toG fun s st => wpAny_mono (h s st) (fun _ _ z => wpAny_mono z (fun _ _ z => by cases z with | mk J N d1 d2 σ₂ e PP IT q => exact ⟨J, N, d1, d2, σ₂, e, PP, IT, q.1, fun i σ' hi inv => ⟨_, fun wr okw => asg_pair okw hc (sto_local okw hx1) (sto_local okw hx2), fun wr okw => q.2.1 i σ' wr hi inv okw⟩, q.2.2⟩) fun _ _ z => z) fun _ _ z => z) hs
end
end Mine
namespace Mine
open PySem PySem.W PySem.Calls PySem.Spec PyProof.Rows
section
variable {X : Cx} {n : Nat} {σ : S} {E : Value → S → Prop}
theorem compLoopG {prog : Program} {w : World} {A : Around} {s : Shared} {elt target iter : Expr} {ifs : List Expr} {scope : Scope} {pos : Pos} {it acc : Value} {env : Env} {R : Result → Shared → Prop} (I : Nat → Shared → Prop)
    (turn : ∀ n s, I n s → wpAny (model prog w) A (pyNext it) (fun r s₁ => match r with
      | none => R (.ok .next) s₁
      | some v => wpAny (model prog w) A (letOwnedTupleGo target it v) (fun _ s₀ => wpAny (model prog w) A (assign target env v) (fun _ s₂ =>
          wpAny (model prog w) A (tests ifs env) (fun ok s₃ =>
            if ok = true then wpAny (model prog w) A (eval elt env) (fun x s₄ =>
              wpAny (model prog w) A (call (.builtin "list.append") [acc, x]) (fun _ s₅ => ∃ m, m < n ∧ I m s₅) (notedBy (model prog w) A env fun e s' => R (.error e) s') s₄) (notedBy (model prog w) A env fun e s' => R (.error e) s') s₃
            else ∃ m, m < n ∧ I m s₃) (notedBy (model prog w) A env fun e s' => R (.error e) s') s₂) (notedBy (model prog w) A env fun e s' => R (.error e) s') s₀) (notedBy (model prog w) A env fun e s' => R (.error e) s') s₁) (notedBy (model prog w) A env fun e s' => R (.error e) s') s)
    (n : Nat) (h : I n s) : codeAny (model prog w) A (.compLoop (.ListComp elt [⟨target, iter, ifs, 0⟩] scope pos) 0 it acc env) R s := by
  refine codeAny_loop rfl I (fun n s hI => ?_) n h
  show wpAny _ A ((compTurn (.ListComp elt [⟨target, iter, ifs, 0⟩] scope pos) 0 it acc env).onRaise (fun x => do noteFrame x env; theTreesLotGoes x)) _ _ s
  refine wpAny_noted ?_
  rw [compTurn_list]
  refine wpAny_bind (wpAny_standAt (wpAny_bind (wpAny_mono (turn n s hI) (fun r s₁ h₁ => ?_) fun _ _ h' => h')))
  cases r with
  | none => exact wpAny_pure h₁
  | some v =>
    refine wpAny_bind (wpAny_mono h₁ (fun _ s₀ h₀ => ?_) fun _ _ h' => h')
    refine wpAny_bind (wpAny_mono h₀ (fun _ s₂ h₂ => wpAny_bind (wpAny_mono h₂ (fun ok s₃ h₃ => ?_) fun _ _ h' => h')) fun _ _ h' => h')
    cases ok with
    | false => exact wpAny_pure ⟨rfl, h₃⟩
    | true =>
      exact wpAny_bind (wpAny_bind (wpAny_mono h₃ (fun x s₄ h₄ => wpAny_bind (wpAny_mono h₄ (fun _ s₅ h₅ => wpAny_pure (wpAny_pure ⟨rfl, h₅⟩)) fun _ _ h' => h')) fun _ _ h' => h'))
structure InC (X Z : Cx) (scope : Scope) (cl : List (Str × Addr)) : Prop where
  K : Z.K = X.K
  w : Z.w = X.w
  prog : Z.prog = X.prog
  ctx : Z.ctx = X.ctx
  scope : Z.env.scope = relabel scope X.env
  cells : Z.env.cells = cl
noncomputable def relS (scope es : Scope) : List (Str × NameKind) := scope.names.map fun (n, k) => if (k == .free && es.kind == .function && es.names.lookup n == some .cell) then (n, .cell) else (n, k)
theorem InC.kind {Z : Cx} {scope es : Scope} {cl : List (Str × Addr)} {x : Str} {k : Option NameKind} (h : InC X Z scope cl) (he : X.env.scope = es) (e : (relS scope es).lookup x = k) : Z.env.kindOf x = k := by
  subst he
  unfold Env.kindOf
  rw [h.scope]; exact e
noncomputable def closL (cells : List (Str × Addr)) : List (Str × NameKind) → List (Str × Addr) → Option (List (Str × Addr))
  | [], acc => some acc
  | (x, k) :: r, acc => if k == .free then (match cells.lookup x with | some c => closL cells r ((x, c) :: acc) | none => none) else closL cells r acc
theorem closL_ok {env : Env} {scope : Scope} {cells cl : List (Str × Addr)} (hc : env.cells = cells) (h : closL cells scope.names [] = some cl) : closureFor scope env = pure cl := by
  subst hc
  have : ∀ (names : List (Str × NameKind)) (acc : List (Str × Addr)), closL env.cells names acc = some cl → (forIn names acc fun (p : Str × NameKind) cs => do
      if p.2 == .free then do let c ← cellOf env p.1; pure (ForInStep.yield ((p.1, c) :: cs)) else pure (ForInStep.yield cs) : Sem (List (Str × Addr))) = pure cl := by
    intro names
    induction names with
    | nil => intro acc e; cases e; rfl
    | cons p r ih =>
      intro acc e
      obtain ⟨x, k⟩ := p
      rw [List.forIn_cons]
      unfold closL at e
      dsimp only
      by_cases hk : (k == NameKind.free) = true
      · rw [if_pos hk] at e ⊢
        cases hl : env.cells.lookup x with
        | none => rw [hl] at e; cases e
        | some c =>
          rw [hl] at e
          have e1 : cellOf env x = pure c := by unfold cellOf; rw [hl]
          rw [e1]
          exact ih _ e
      · rw [if_neg hk] at e ⊢
        exact ih _ e
  have h2 := this scope.names [] h
  exact (congrArg (fun z : Sem (List (Str × Addr)) => z >>= fun s => pure s) h2).trans rfl
theorem post_off {s s' : Shared} {σ' : S} {C : Addr} {h' : Heap} (st : St X σ s.heap) (P : Post X σ s σ' s') (hC : s.heap.get? C = none) (hn : ∃ m, s'.heap.Ns C m) (hmu : ¬ σ'.mu C) (hs : Heap.SameBut C s'.heap h') : Post X σ s σ' { s' with heap := h' } := by
  have ne : ∀ a o, s.heap.get? a = some o → a ≠ C := fun a o g q => by rw [q, hC] at g; cases g
  have sb : ∀ b o, b ≠ C → s'.heap.get? b = some o → h'.get? b = some o := fun b o n g => (hs.2 b n).trans g
  have cb : X.base.get? C = none := by
    cases q : X.base.get? C with
    | none => rfl
    | some o => have := st.base _ o q; rw [hC] at this; cases this
  obtain ⟨h₂, tk', e⟩ := P.upd
  obtain ⟨mC, oC, esC, epC, gC, dC, _⟩ := hn
  refine ⟨⟨h', tk', by rw [e]⟩, ⟨fun a o g nm q => let ⟨g', n'⟩ := P.ext.seq a o g nm q; ⟨sb a o (ne a o g) g', n'⟩, fun a o g nm l q => let ⟨n', sl, g'⟩ := P.ext.obj a o g nm l q; ⟨n', sl, sb a _ (ne a o g) g'⟩, fun a ha o g => let ⟨g', n'⟩ := P.ext.watch a ha o g; ⟨sb a o (ne a o g) g', n'⟩⟩,
    ⟨fun b o g => sb b o (fun q => by rw [q, cb] at g; cases g) (P.st.base b o g), ?_, fun a o g => ?_, P.st.locOff, fun a ha => ?_, fun e he => ?_⟩⟩
  · obtain ⟨m, hn, hm⟩ := P.st.names
    obtain ⟨m0, ⟨o0, _, _, g0, _⟩, _⟩ := st.names
    exact ⟨m, hn.at' fun o g => sb _ o (ne _ _ g0) g, fun y d e => let ⟨v, q, r⟩ := hm y d e; ⟨v, q, r.monoS fun b ob gb nb qb => ⟨sb b ob (fun z => by rw [z, gC] at gb; cases gb; rw [dC] at qb; exact qb) gb, nb⟩⟩⟩
  · obtain ⟨y, z⟩ := P.st.own a o g
    have an : a ≠ C := fun q => hmu (by show σ'.hp C ≠ none; rw [← q, g]; exact Option.some_ne_none _)
    exact ⟨y.mono (L := C) (prot := []) ⟨fun b ob gb nb qb => ⟨sb b ob (fun z => by rw [z, gC] at gb; cases gb; rw [dC] at qb; exact qb) gb, nb⟩, fun b ob gb nb lb qb => ⟨nb, ob.slots, sb b ob lb gb⟩, fun b hb => nomatch hb⟩ (hs.2 a an), z⟩
  · obtain ⟨z, o, vs, g, d⟩ := P.st.prot a ha
    obtain ⟨_, o1, vs1, g1, _⟩ := st.prot a ha
    exact ⟨z, o, vs, sb a o (ne a _ g1) g, d⟩
  · obtain ⟨z, L, o, es, ep, hfr, hb, hmu, g, d⟩ := P.st.frs e he
    obtain ⟨_, L', o', es', ep', hf', hb', hm', g', d'⟩ := st.frs e he
    rw [hfr] at hf'; cases hf'
    exact ⟨z, L, o, es, ep, hfr, hb, hmu, sb L o (ne L o' g') g, d⟩
theorem comp_block {tg elt iter : Expr} {pos : Pos} {ifs : List Expr} {scope : Scope} {cl : List (Str × Addr)} {s₂ : Shared} {J : Addr} {N : Nat} {P : Nat → (Addr → Prop) → Heap → Value → Prop} {keep : Nat → Bool} {es : Nat → V} {RR : Value → Addr → Result → Shared → Prop} {E' : Value → Shared → Prop} (ok : Ok X n) (hc : X.ctx = none)
    (hcell : ∀ y ∈ scope.names, y.2 ≠ .cell) (hkind : scope.kind = .function) {to : List Addr} (st : St X σ s₂.heap) (IT : ItG X σ s₂.heap J tg N P to) (hT : ∀ b ∈ to, σ.hp b = some .pair) (hN : N ≤ 10000)
    (item : ∀ Z D i σ', i < N → σ.hp D = none → σ'.hp = upd σ.hp D (.lst (accOf keep es i)) → InC X Z scope cl → Ok Z n → ∃ σb, Asg Z tg (P i) σ' σb ∧ W Z (tests ifs Z.env) RB σb
      (fun b σ₂ => b = keep i ∧ σ₂.hp = upd σ.hp D (.lst (accOf keep es i)) ∧ (b = true → W Z (eval elt Z.env) VM σ₂ (fun v σ₃ => v = es i ∧ σ₃.hp = upd σ.hp D (.lst (accOf keep es i))) F0)) F0)
    (hRR : ∀ D C s', s₂.heap.get? C = none → σ.hp D = none → σ.hp C = none → D ≠ C → Post X σ s₂ ⟨σ.loc, upd (drp to σ.hp) D (.lst (accOf keep es N))⟩ s' → (∃ m, s'.heap.Ns C m) → RR (.ref D) C (.ok .next) s') :
    wpAny (model X.prog X.w) X.A (newList []) (fun acc s₃ => wpAny (model X.prog X.w) X.A (newFunctionEnv scope X.env.globals cl [] X.env.qual none .none (some X.env)) (fun cenv s₄ =>
      codeAny (model X.prog X.w) X.A (.compStart (.ListComp elt [⟨tg, iter, ifs, 0⟩] scope pos) 0 (.ref J) acc { cenv with scope := relabel scope X.env }) (RR acc cenv.locals) s₄) E' s₃) E' s₂ := by
  obtain ⟨m₀, hn₀, hm₀⟩ := st.names
  have nD := new_none st
  refine wpAny_newList ?_
  have P3 := post_write (h' := s₂.heap.push { cls := .type "list", data := .seq ([] : List Value).toArray }) (tk := s₂.toks) (a := s₂.heap.objs.size) (o := .lst []) ok st (fun b o _ _ e => Heap.get?_push_of_some _ e) ⟨m₀, hn₀.push _, hm₀⟩ (.inr (Heap.get?_none_of_le (Nat.le_refl _)))
      fun _ _ mv => ⟨[], 0, Heap.get?_push_size _ rfl, .nil⟩
  refine wpAny_newFunctionEnv hcell (by intro y hy; simp at hy) (fun h₁ hns₁ hsb₁ => ?_) hkind
  dsimp only at hns₁ hsb₁ ⊢
  have hCs : (s₂.heap.push { cls := .type "list", data := .seq ([] : List Value).toArray }).objs.size = s₂.heap.objs.size + 1 := Heap.size_push ..
  have hC0 : s₂.heap.get? (s₂.heap.push { cls := .type "list", data := .seq ([] : List Value).toArray }).objs.size = none := by rw [hCs]; exact Heap.get?_none_of_le (Nat.le_succ _)
  have hDC : s₂.heap.objs.size ≠ (s₂.heap.push { cls := .type "list", data := .seq ([] : List Value).toArray }).objs.size := by rw [hCs]; exact (Nat.succ_ne_self _).symm
  have hCn : σ.hp (s₂.heap.push { cls := .type "list", data := .seq ([] : List Value).toArray }).objs.size = none := by
    cases q : σ.hp (s₂.heap.push { cls := .type "list", data := .seq ([] : List Value).toArray }).objs.size with
    | none => rfl
    | some o => obtain ⟨ob, g⟩ := (st.own _ o q).1.there; rw [hC0] at g; cases g
  generalize hH : s₂.heap.push { cls := .type "list", data := .seq ([] : List Value).toArray } = H at P3 hns₁ hsb₁ hC0 hDC hCn ⊢
  have hC : H.get? H.objs.size = none := Heap.get?_none_of_le (Nat.le_refl _)
  have k₁ : ∀ b o, H.get? b = some o → h₁.get? b = some o := fun b o e => hsb₁.extBut b o (Nat.ne_of_lt (Heap.lt_size e)) (Heap.get?_push_of_some _ e)
  have kk : ∀ b o, s₂.heap.get? b = some o → h₁.get? b = some o := fun b o e => k₁ b o (hH ▸ Heap.get?_push_of_some _ e)
  have nf := new_facts P3.st
  have ce : CEnv X (compEnvC scope cl H.objs.size X.env) := ⟨hkind, rfl, rfl, rfl⟩
  have ab : X.base.objs.size ≤ H.objs.size := by
    obtain ⟨m, hn, _⟩ := P3.st.names
    exact Nat.le_trans ok.above (Nat.le_of_lt hn.lt)
  have okc := ok_comp (cenv := compEnvC scope cl H.objs.size X.env) ok ce ab nf.2.2
  have st₀ := st_comp (cenv := compEnvC scope cl H.objs.size X.env) (loc0 := []) P3.st hC hns₁ k₁ (fun y d e => by simp [lk] at e)
  have hDT : s₂.heap.objs.size ∉ to := fun q => by rw [hT _ q] at nD; cases nD
  have hTup : ∀ L, ∀ b ∈ to, upd σ.hp s₂.heap.objs.size L b = some .pair := fun L b hb => by
    have hq : b ≠ s₂.heap.objs.size := fun q => hDT (q ▸ hb)
    rw [upd_ne hq]; exact hT b hb
  have IT' : ItG (X.comp (compEnvC scope cl H.objs.size X.env)) ⟨[], upd σ.hp s₂.heap.objs.size (.lst [])⟩ h₁ J tg N P to := IT.grow kk fun b o g nm mm => nm (by
    have : upd σ.hp s₂.heap.objs.size (.lst []) b ≠ none := mm
    rwa [upd_ne (Nat.ne_of_lt (Heap.lt_size g))] at this)
  obtain ⟨wr, G, g0, gp, self, next, done⟩ := loopG (s₂ := { s₂ with heap := h₁, toks := s₂.toks + ([] : List (Str × Value)).length }) okc hc IT' (hTup _) st₀
  have lp : codeAny (model X.prog X.w) X.A (.compLoop (.ListComp elt [⟨tg, iter, ifs, 0⟩] scope pos) 0 (.ref J) (.ref s₂.heap.objs.size) (compEnvC scope cl H.objs.size X.env)) (RR (.ref s₂.heap.objs.size) H.objs.size) { s₂ with heap := h₁, toks := s₂.toks + ([] : List (Str × Value)).length } := by
    refine compLoopG (fun k s' => ∃ i σ', i + k = N ∧ G i σ' s' ∧ σ'.hp = upd σ.hp s₂.heap.objs.size (.lst (accOf keep es i))) (fun k s' hI => ?_) N ⟨0, _, Nat.zero_add _, g0, rfl⟩
    obtain ⟨i, σ', hik, g, hhp⟩ := hI
    by_cases hi : i < N
    · have it' := fun okw => item ((X.comp (compEnvC scope cl H.objs.size X.env)).watch wr) s₂.heap.objs.size i σ' hi nD hhp ⟨rfl, rfl, rfl, rfl, rfl, rfl⟩ okw
      by_cases okw : Ok ((X.comp (compEnvC scope cl H.objs.size X.env)).watch wr) n
      · obtain ⟨σb, asg, hb⟩ := it' okw
        refine next i σ' s' σb _ _ _ hi g (fun _ => asg) (fun _ s₃ P₃ st₃ gn => ?_) fun v s₁ z => z
        refine wpAny_mono (hb s₃ st₃) (fun ok s₄ z => ?_) fun _ _ z => z.elim0
        obtain ⟨b, σ₂, Pe, e, hbk, hp₂, helt⟩ := z
        cases e
        cases hok : ok
        · simp only [Bool.false_eq_true, if_false]
          exact ⟨k - 1, by omega, i + 1, σ₂, by omega, gn _ _ Pe (by rw [hp₂]; exact hTup _), by rw [hp₂, accOf_succ, ← hbk, hok]; rfl⟩
        · simp only [if_true]
          refine wpAny_mono ((helt hok).go Pe) (fun v s₅ z => ?_) fun _ _ z => z.elim0
          obtain ⟨vv, σ₃, Pf, vm, rfl, hp₃⟩ := z
          have hDl : σ₃.hp s₂.heap.objs.size = some (.lst (accOf keep es i)) := by rw [hp₃, upd_self]
          refine wpAny_mono (c_append (E := F0) (Q := fun d σ₄ => d = .none ∧ σ₄ = { σ₃ with hp := upd σ₃.hp s₂.heap.objs.size (.lst (accOf keep es i ++ [es i])) }) okw hDl (Nat.le_trans (accOf_len _ _ _) (by omega)) ⟨rfl, rfl⟩ [.ref s₂.heap.objs.size, v] s₅ Pf.st (.cons (.ref _) (.cons vm .nil))) (fun _ s₆ z => ?_) fun _ _ z => z.elim0
          obtain ⟨_, _, Pg, _, _, rfl⟩ := z
          refine ⟨k - 1, by omega, i + 1, _, by omega, gn _ _ (Pf.trans Pg) (by show ∀ b ∈ to, upd σ₃.hp _ _ b = _; rw [hp₃, upd_upd]; exact hTup _), ?_⟩
          show upd σ₃.hp _ _ = _
          rw [hp₃, upd_upd, accOf_succ, ← hbk, hok]; rfl
      · refine next i σ' s' σ' (fun _ => False) _ _ hi g (fun okw' => absurd okw' okw) (fun okw' => absurd okw' okw) fun v s₁ z => wpAny_mono z (fun _ _ z => wpAny_mono z (fun _ _ z => z.elim) fun _ _ z => z) fun _ _ z => z
    · obtain rfl : i = N := by omega
      refine done σ' s' _ _ g fun s₃ P₃ => ?_
      have PP := (gp _ _ _ g).trans P₃
      have Pf := comp_back (s := { s₂ with heap := H }) (σ := { σ with hp := upd σ.hp s₂.heap.objs.size (.lst []) }) P3.st hC k₁ ⟨_, _, rfl⟩ PP (h' := s₃.heap) ⟨rfl, fun _ _ => rfl⟩
      obtain ⟨m, hn, _⟩ := PP.st.names
      rw [hhp, show drp to (upd σ.hp s₂.heap.objs.size (.lst (accOf keep es i))) = upd (drp to σ.hp) s₂.heap.objs.size (.lst (accOf keep es i)) from by
        funext c
        by_cases hcD : c = s₂.heap.objs.size
        · rw [hcD, upd_self, drp_out hDT, upd_self]
        · rw [upd_ne hcD]; unfold drp; split
          · rfl
          · exact upd_ne hcD] at Pf
      exact hRR _ _ _ hC0 nD hCn hDC (P3.trans Pf) ⟨m, hn⟩
  exact codeAny_compStart_list lp (self 0 _ _ _ _ g0 lp)
theorem drp_off {to : List Addr} {hp : Addr → Option HO} {a : Addr} (h : hp a = none) : drp to hp a = none := by unfold drp; split; rfl; exact h
inductive CompQ (N : Nat) (P R : (Nat → Bool) → (Nat → V) → Prop) : Prop
  | mk (hN : N ≤ 10000) (keep : Nat → Bool) (es : Nat → V) (item : P keep es) (q : R keep es)
theorem W_CompG {tg elt iter : Expr} {pos : Pos} {ifs : List Expr} {scope : Scope} {cl : List (Str × Addr)} {Q : V → S → Prop} (ok : Ok X n) (hc : X.ctx = none)
    (hclos : closureFor scope X.env = pure cl) (hcell : ∀ y ∈ scope.names, y.2 ≠ .cell) (hkind : scope.kind = .function) (hnames : ∀ y ∈ scope.names, y.2 = .local → scope.names.lookup y.1 = some .local)
    (h : WItG X iter tg False σ (fun N P σ₁ hp₀ => CompQ N (fun keep es => ∀ Z D i σ', i < N → σ₁.hp D = none → σ'.hp = upd σ₁.hp D (.lst (accOf keep es i)) → InC X Z scope cl → Ok Z n → ∃ σb, Asg Z tg (P i) σ' σb ∧ W Z (tests ifs Z.env) RB σb
      (fun b σ₂ => b = keep i ∧ σ₂.hp = upd σ₁.hp D (.lst (accOf keep es i)) ∧ (b = true → W Z (eval elt Z.env) VM σ₂ (fun v σ₃ => v = es i ∧ σ₃.hp = upd σ₁.hp D (.lst (accOf keep es i))) F0)) F0) (fun keep es => Q (.lst (accOf keep es N)) ⟨σ₁.loc, hp₀⟩)) E)
    (hs : ∀ env x, foldedSetIterable iter env x = pure x) : WE X (.ListComp elt [⟨tg, iter, ifs, 0⟩] scope pos) σ Q E := fun s st => by
  rw [eval_ListComp]
  refine wpAny_comprehension_free (use := none) rfl (hs _) hclos hkind hnames (wpAny_mono (h s st) (fun _ _ z => wpAny_mono z (fun it s₂ hh => ?_) fun _ _ z => z) fun _ _ z => z)
  obtain ⟨J, N, P, σ₁, to, rfl, _, hT, P12, IT, hN, keep, es, item, q⟩ := hh
  refine comp_block (RR := fun acc C => compPost (model X.prog X.w) X.A (Ew X σ s E) none (Qw X σ s VM Q) acc C) ok hc hcell hkind P12.st IT hT hN item fun D C s' hC hD hCn hDC PP hn => ?_
  obtain ⟨m, hn'⟩ := hn
  refine ⟨m, hn', fun h' hsb => ?_⟩
  have P4 := P12.trans (post_off P12.st PP hC ⟨m, hn'⟩ (fun z => z (by show upd (drp to σ₁.hp) D _ C = none; rw [upd_ne hDC.symm]; exact drp_off hCn)) hsb)
  have hD' := drp_off (to := to) hD
  have hs : ∀ a o, drp to σ₁.hp a = some o → upd (drp to σ₁.hp) D (.lst (accOf keep es N)) a = some o := fun a o e => by
    rw [upd_ne (fun q => by rw [q, hD'] at e; cases e)]; exact e
  exact ⟨.lst (accOf keep es N), ⟨σ₁.loc, drp to σ₁.hp⟩, post_drop P4 hs (fun _ _ e => e), Fz.vm (σ := ⟨σ₁.loc, upd (drp to σ₁.hp) D (.lst (accOf keep es N))⟩) P4.st hs (.own upd_self hD') (.ref _), q⟩
theorem sub_one {x : Str} {d : V} {loc : List (Str × V)} : ∀ y e, lk [(x, d)] y = some e → lk (put loc x d) y = some e := fun y e h => by
  by_cases hy : y = x
  · subst hy; rw [lk_put_self]; simpa [lk] using h
  · have : (y == x) = false := by simpa using hy
    simp [lk, List.lookup_cons, this] at h
theorem W_Comp {x : Str} {px pos : Pos} {elt iter : Expr} {ifs : List Expr} {scope : Scope} {cl : List (Str × Addr)} {Q : V → S → Prop} (ok : Ok X n) (hc : X.ctx = none)
    (hclos : closureFor scope X.env = pure cl) (hcell : ∀ y ∈ scope.names, y.2 ≠ .cell) (hkind : scope.kind = .function) (hnames : ∀ y ∈ scope.names, y.2 = .local → scope.names.lookup y.1 = some .local) (hx : scope.names.lookup x = some .local)
    (h : WIt X iter σ (fun N ds σ₁ => CompQ N (fun keep es => ∀ Z D i, i < N → σ₁.hp D = none → InC X Z scope cl → Ok Z n → W Z (tests ifs Z.env) RB ⟨[(x, ds i)], upd σ₁.hp D (.lst (accOf keep es i))⟩
      (fun b σ₂ => b = keep i ∧ σ₂.hp = upd σ₁.hp D (.lst (accOf keep es i)) ∧ (b = true → W Z (eval elt Z.env) VM σ₂ (fun v σ₃ => v = es i ∧ σ₃.hp = upd σ₁.hp D (.lst (accOf keep es i))) F0)) F0) (fun keep es => Q (.lst (accOf keep es N)) σ₁)) E)
    (hs : ∀ env x, foldedSetIterable iter env x = pure x) : WE X (.ListComp elt [⟨.Name x px, iter, ifs, 0⟩] scope pos) σ Q E :=
  W_CompG ok hc hclos hcell hkind hnames (WIt.toG fun s st => wpAny_mono (h s st) (fun _ _ z => wpAny_mono z (fun _ _ z => by cases z with | mk J N ds σ₂ e PP IT z => obtain ⟨hN, keep, es, item, q⟩ := z; exact ⟨J, N, ds, σ₂, e, PP, IT, hN, keep, es, fun Z D i σ' hi hD hh inc okZ =>
    ⟨{ σ' with loc := put σ'.loc x (ds i) }, asg_name (sto_local okZ (by unfold Env.kindOf; rw [inc.scope]; exact lookup_relabel_local hx)), W.drop ⟨sub_one, fun a o e => by show σ'.hp a = some o; rw [hh]; exact e⟩ (item Z D i hi hD inc okZ)⟩, q⟩) fun _ _ z => z) fun _ _ z => z) hs
end
end Mine
namespace Mine
open PySem PySem.W PySem.Calls PySem.Spec PyProof.Rows
section
variable {X : Cx} {n : Nat} {σ : S} {E : Value → S → Prop}
theorem W_Repl {m l : Str} {mp ap pos kp bp lp zp : Pos} {c1 c2 : Str} {k1 k2 : Nat} {x y z1 z2 : List Nat} {Q : V → S → Prop} (ok : Ok X n) (hm : X.env.kindOf m = some .local) (hl : X.env.kindOf l = some .local)
    (em : lk σ.loc m = some (.str x)) (el : lk σ.loc l = some (.str y)) (e1 : c1.cps.toList = z1) (e2 : c2.cps.toList = z2) (h1 : z1 ≠ []) (hy : y ≠ []) (hlen : x.length ≤ 10000) (hly : z1.length + y.length ≤ 1000) (hz : z2.length ≤ 14) (hne : z1 ++ y ≠ z2)
    (q : Q (.str (replL x (z1 ++ y) z2)) σ) (hline : (ap.endLine == pos.line) = true) (dm : (m == ("__debug__" : Str)) = false) (dl : (l == ("__debug__" : Str)) = false) :
    WE X (.Call (.Attribute (.Name m mp) "replace" ap) [.BinOp (.Constant (.str c1) k1 kp) .Add (.Name l lp) bp, .Constant (.str c2) k2 zp] [] pos) σ Q E := fun s st => by
  rw [arm_eval_Call]
  show wpAny _ _ (eval (.Name m mp) X.env >>= _) _ _ _
  refine wpAny_bind ((W_local (Q := fun d σ' => d = .str x ∧ σ' = σ) (E := E) ok hm em ⟨rfl, rfl⟩ dm).run (Post.refl st) fun v s₁ a σ₁ _ P₁ vm h₁ => wpAny_bind (wpAny_standAt ?_))
  obtain ⟨rfl, rfl⟩ := h₁
  obtain ⟨t, rfl⟩ := vm.strI
  unfold methodCall calleeOf methodCallPos
  have e : methodCallForm ([Expr.BinOp (.Constant (.str c1) k1 kp) .Add (.Name l lp) bp, .Constant (.str c2) k2 zp].length + ([] : List Keyword).length) (backTo pos (starEach [.BinOp (.Constant (.str c1) k1 kp) .Add (.Name l lp) bp, .Constant (.str c2) k2 zp] X.env)) (backToKw pos (keywordEach [] X.env)) = true := rfl
  rw [e]
  rw [if_pos rfl]
  dsimp only
  rw [hline]
  refine wpAny_bind (wpAny_holding (GM.replace (x := ⟨x.toArray⟩) (wpAny_bind (wpAny_pure ?_))))
  refine callWith_of (P := X.K.In) rfl (keeps_builtin (X := X)) ?_
  obtain ⟨mm, hn, hmm⟩ := P₁.st.names
  obtain ⟨v2, hv2, vm2⟩ := hmm _ _ el
  obtain ⟨t2, rfl⟩ := vm2.strI
  refine evalArgs_plain (spliced_cons (wpAny_BinOp (wpAny_Constant_str ?_)))
  refine wpAny_Name (wpAny_loadName_local ok.kind hl hn hv2 ?_) dl
  refine P.add_str ?_
  have hc1 : (c1.length == 0) = false := by
    have : c1.length = z1.length := by rw [← e1, Array.length_toList]; rfl
    rw [this]; cases z1 with | nil => exact absurd rfl h1 | cons _ _ => rfl
  have hc2 : ((⟨y.toArray⟩ : Str).length == 0) = false := by rw [mk_len]; cases y with | nil => exact absurd rfl hy | cons _ _ => rfl
  rw [hc1, hc2]
  simp only [Bool.false_eq_true, if_false]
  have hcat : (c1 ++ (⟨y.toArray⟩ : Str)).cps.toList = z1 ++ y := by rw [PySem.Str.cps_append, Array.toList_append, e1]
  have hcl : (c1 ++ (⟨y.toArray⟩ : Str)).length = z1.length + y.length := by
    have := congrArg List.length hcat
    rw [Array.length_toList, List.length_append] at this; exact this
  refine ⟨by rw [hcl, sizeLine_eq]; omega, ?_⟩
  refine spliced_cons ?_
  show wpAny _ _ (eval (.Constant (.str c2) k2 zp) X.env) _ _ _
  refine wpAny_Constant_str (spliced_nil ⟨P₁.st.inK ok, ?_⟩)
  have ecat : c1 ++ (⟨y.toArray⟩ : Str) = mk (z1 ++ y) := by
    refine PySem.Str.ext' ?_
    have := congrArg List.toArray hcat
    simpa using this
  have ez : c2 = mk z2 := by
    refine PySem.Str.ext' ?_
    have := congrArg List.toArray e2
    simpa using this
  show wpAny _ _ (call (.builtin "str.replace") ([Value.str ⟨x.toArray⟩ t] ++ [Value.str (c1 ++ ⟨y.toArray⟩) _, Value.str c2 _])) _ _ _
  rw [ecat, ez]
  refine SC.replaceW (Nat.succ_ne_zero _) (Nat.succ_ne_zero _) (Nat.ne_of_lt (Nat.lt_succ_self _)) ?_ (by rw [mk_len]; omega) (by rw [mk_len]; exact hz) fun t' k => ?_
  · rw [str_beq]; simpa using hne
  · exact (qw_same (s := s₁) P₁.st k (.strE rfl) q : Qw X σ₁ s₁ VM Q _ _).after P₁
end
end Mine
namespace Mine
open PySem PySem.W PySem.Calls PySem.Spec PyProof.Rows
noncomputable def fdAt (K : Frag) (a : Addr) : FuncData := match K.lookup a with
  | some ⟨_, _, .func fd, _⟩ => fd
  | _ => default
noncomputable def bodyAt (K : Frag) (a : Addr) : List Stmt := match (fdAt K a).body with
  | .stmts b => b
  | _ => []
noncomputable def isFd (K : Frag) (a : Addr) : Bool := match K.lookup a with
  | some ⟨_, _, .func _, _⟩ => true
  | _ => false
noncomputable def fnOk (K : Frag) (a : Addr) : Bool :=
  isFd K a && codeIn K (fdAt K a).code (fdAt K a).qualname && (match (fdAt K a).body with | .stmts _ => true | _ => false) && (fdAt K a).globals == mainGlobals && (fdAt K a).builtins == builtinsNs &&
  (match (fdAt K a).scope.kind with | .function => true | _ => false) && !(fdAt K a).scope.isCoroutine && !(fdAt K a).scope.isGenerator && (fdAt K a).scope.names.all fun x => match x.2 with | .cell => false | _ => true
theorem FnIs.of {K : Frag} {a : Addr} (h : fnOk K a = true) : FnIs K a (fdAt K a) (bodyAt K a) := by
  unfold fnOk at h
  simp only [Bool.and_eq_true] at h
  obtain ⟨⟨⟨⟨⟨⟨⟨⟨h1, h2⟩, h3⟩, h4⟩, h5⟩, h6⟩, h7⟩, h8⟩, h9⟩ := h
  refine ⟨?_, h2, ?_, ?_, ?_, ?_, ?_, ?_, ?_⟩
  · unfold isFd at h1
    split at h1
    · rename_i q
      rename_i c d fd sl
      have e : fdAt K a = fd := by unfold fdAt; rw [q]
      exact ⟨c, d, sl, by rw [e]; exact q⟩
    · cases h1
  · unfold bodyAt
    split at h3
    · rename_i q; rw [q]
    · cases h3
  · exact eq_of_beq h4
  · exact eq_of_beq h5
  · split at h6
    · assumption
    · cases h6
  · simpa using h7
  · simpa using h8
  · intro x hx e
    have := List.all_eq_true.mp h9 x hx
    rw [e] at this
    cases this
end Mine
namespace Mine
open PySem PySem.W PySem.Calls PySem.Spec PyProof.Rows
section
variable {X : Cx} {n : Nat} {σ : S} {E : Value → S → Prop}
theorem lk_hit {x : Str} {d : V} {r : List (Str × V)} : lk ((x, d) :: r) x = some d := by simp [lk, List.lookup]
theorem lk_skip {x y : Str} {d e : V} {r : List (Str × V)} (h : x ≠ y) (k : lk r x = some d) : lk ((y, e) :: r) x = some d := by
  unfold lk at *
  rw [List.lookup_cons, show (x == y) = false from by simpa using h]
  exact k
theorem lk_cut {x y : Str} {e : V} {r : List (Str × V)} (h : x ≠ y) (k : lk r x = none) : lk ((y, e) :: r) x = none := by
  unfold lk at *
  rw [List.lookup_cons, show (x == y) = false from by simpa using h]
  exact k
theorem lkp_skip {x y : Str} {d e : V} {r : List (Str × V)} (h : x ≠ y) (k : lk r x = some d) : lk (put r y e) x = some d := (lk_put_ne h).trans k
noncomputable def clsOk (K : Frag) (C : Addr) (name : Str) : Bool := match findIn K (.ref C) name with
  | some attr => noGet K attr
  | none => false
theorem KGet.of {K K' : Frag} {C : Addr} {name : Str} (hK : K = K') (h1 : plainGet K' C name = true) (h2 : hasDictIn K' C = true) (h3 : clsOk K' C name = true) : KGet K C name := by
  subst hK
  refine ⟨h1, h2, ?_⟩
  unfold clsOk at h3
  split at h3
  · rename_i attr q; exact ⟨attr, q, h3⟩
  · cases h3
theorem KSet.of {K K' : Frag} {C : Addr} {name : Str} (hK : K = K') (h1 : findIn K' (.ref C) "__setattr__" = some (some (.builtin "object.__setattr__"))) (h2 : plainOver K' C = true) (h3 : takerIn K' C name = some none) (h4 : hasDictIn K' C = true) : KSet K C name := by subst hK; exact ⟨h1, h2, h3, h4⟩
theorem KMeth.of {K K' : Frag} {C f : Addr} {name : Str} (hK : K = K') (h1 : plainGet K' C name = true) (h2 : findIn K' (.ref C) name = some (some (.ref f))) (h3 : isFn K' (.ref f) = true) (h4 : keepIn K' (.ref f) = true) : KMeth K C name f := by subst hK; exact ⟨h1, h2, h3, h4⟩
theorem KB.of {K' : Frag} {x : Str} {v : Value} (hK : X.K = K') (h1 : X.env.kindOf x = some .globalImplicit) (h2 : nsIn K' mainGlobals x = some none) (h3 : bootBuiltins x = some v) : KB X x v := by subst hK; exact ⟨h1, h2, h3⟩
theorem W_gl {K' : Frag} {x : Str} {pos : Pos} {v : Value} {Q : V → S → Prop} (ok : Ok X n) (hK : X.K = K') (hx : X.env.kindOf x = some .globalImplicit) (e : nsIn K' mainGlobals x = some (some v)) (hd : (x == ("__debug__" : Str)) = false) (q : Q (.lit v) σ) : WE X (.Name x pos) σ Q E :=
  W_global ok hx (by rw [hK]; exact e) q hd
theorem W_bi {K' : Frag} {x : Str} {pos : Pos} {v : Value} {Q : V → S → Prop} (ok : Ok X n) (hK : X.K = K') (hx : X.env.kindOf x = some .globalImplicit) (e : nsIn K' mainGlobals x = some none) (hv : bootBuiltins x = some v) (hn : x ≠ "__name__") (hd : (x == ("__debug__" : Str)) = false) (q : Q (.lit v) σ) : WE X (.Name x pos) σ Q E :=
  W_builtin ok hx (by rw [hK]; exact e) hv hn q hd
theorem keeps_fn {K' : Frag} {f : Value} (hK : X.K = K') (h : keepIn K' f = true) : Keeps X f := keeps_of (by rw [hK]; exact h)
theorem ht_bi {K' : Frag} {x : Str} {pos : Pos} {v : Value} (ok : Ok X n) (hK : X.K = K') (hx : X.env.kindOf x = some .globalImplicit) (e : nsIn K' mainGlobals x = some none) (hv : bootBuiltins x = some v) (hn : x ≠ "__name__") (hd : (x == ("__debug__" : Str)) = false) :
    ∀ (A : Around) (σ' : S) (s : Shared) (Q' : Value → Shared → Prop) (E' : Value → Shared → Prop), St X σ' s.heap → Q' v s → wpAny (model X.prog X.w) A (eval (.Name x pos) X.env) Q' E' s := fun A σ' s Q' E' st q =>
  Name_function_global ok.kind hx (loadGlobal_builtin (ok.genv ▸ ok.top.g.keeps st.base) (mg_none_of ok.inK ok.top.g (by rw [hK]; exact e)) (ok.benv ▸ ok.top.b.keeps st.base) ((ok.top.builtins x hn).trans hv) q) hd
theorem ht_gl {K' : Frag} {x : Str} {pos : Pos} {v : Value} (ok : Ok X n) (hK : X.K = K') (hx : X.env.kindOf x = some .globalImplicit) (e : nsIn K' mainGlobals x = some (some v)) (hd : (x == ("__debug__" : Str)) = false) :
    ∀ (A : Around) (σ' : S) (s : Shared) (Q' : Value → Shared → Prop) (E' : Value → Shared → Prop), St X σ' s.heap → Q' v s → wpAny (model X.prog X.w) A (eval (.Name x pos) X.env) Q' E' s := fun A σ' s Q' E' st q =>
  Name_function_global ok.kind hx (loadGlobal_global (ok.genv ▸ ok.top.g.keeps st.base) (mg_of ok.inK ok.top.g (by rw [hK]; exact e)) q) hd
theorem W_field {x attr : Str} {xp pos : Pos} {a C dx : Addr} {fs : List (Str × V)} {d : V} {Q : V → S → Prop} (ok : Ok X n) (hx : X.env.kindOf x = some .local) (hd : (x == ("__debug__" : Str)) = false) (ex : lk σ.loc x = some (.ref a)) (h1 : σ.hp a = some (.inst C dx)) (h2 : σ.hp dx = some (.dict fs)) (kg : KGet X.K C attr)
    (e : lk fs attr = some d) (hl : ∀ w, d ≠ .lit w) (q : Q d σ) : WE X (.Attribute (.Name x xp) attr pos) σ Q E :=
  W_Attr (W_local ok hx ex (get_field ok h1 h2 kg e hl q) hd)
noncomputable def isCls (K : Frag) (C : Addr) : Bool := match K.lookup C with
  | some ⟨_, _, .cls _, _⟩ => true
  | _ => false
theorem KExc.of {K K' : Frag} {C : Addr} (hK : K = K') (h1 : isCls K' C = true) (h2 : subIn K' (.ref C) (.type "BaseException") = some true) (h3 : typeIn K' (.ref C) = some (.type "type")) : KExc K C := by
  subst hK
  refine ⟨?_, h2, h3⟩
  unfold isCls at h1
  split at h1
  · rename_i q; exact ⟨_, _, _, _, q⟩
  · cases h1
structure In (X Y : Cx) (fd : FuncData) : Prop where
  K : Y.K = X.K
  w : Y.w = X.w
  prog : Y.prog = X.prog
  ctx : Y.ctx = X.ctx
  env : Y.env = Y.fenv
  scope : Y.env.scope = fd.scope
theorem Call.fn' {K' : Frag} {f : Addr} {ds : List V} {names : List Str} {loc0 : List (Str × V)} {Q : V → S → Prop} (ok : Ok X (n + 1)) (hK : X.K = K') (hf : fnOk K' f = true)
    (hb : ∀ vs : List Value, vs.length = names.length → ∀ S, peek K' S (bindArgs (fdAt K' f) ⟨vs, []⟩) = some (names.zip vs)) (hl : (names.all fun x => (fdAt K' f).scope.names.lookup x == some .local) = true) (hn : names.Nodup) (hlen : ds.length = names.length) (h0 : loc0 = names.zip ds)
    (h : ∀ Y, Ok Y n → In X Y (fdAt K' f) → WXs Y (bodyAt K' f) ⟨loc0, σ.hp⟩ (fun fl σ' => Q (retV fl) ⟨σ.loc, σ'.hp⟩) (fun c σ' => E c ⟨σ.loc, σ'.hp⟩)) : Call X (.ref f) ds σ Q E := by
  subst h0
  subst hK
  exact Call.fn ok (FnIs.of hf) (fun vs s st vm => binds_place (fun vs e => kp_binds (st.inK ok) (hb vs e)) hl hn hlen vm) fun L okL => h _ okL ⟨rfl, rfl, rfl, rfl, rfl, rfl⟩
theorem len_one {vs : List Value} {n : Nat} (e : vs.length = n + 1) : ∃ v ws, vs = v :: ws ∧ ws.length = n := by
  cases vs with
  | nil => cases e
  | cons v ws => exact ⟨v, ws, rfl, Nat.succ.inj e⟩
theorem bind1 {P : List Value → Prop} (h : ∀ v, P [v]) : ∀ vs : List Value, vs.length = 1 → P vs := fun vs e => by
  obtain ⟨v, ws, rfl, e'⟩ := len_one e
  cases List.eq_nil_of_length_eq_zero e'; exact h v
theorem bind2 {P : List Value → Prop} (h : ∀ v w, P [v, w]) : ∀ vs : List Value, vs.length = 2 → P vs := fun vs e => by
  obtain ⟨v, ws, rfl, e'⟩ := len_one e
  exact bind1 (P := fun ws => P (v :: ws)) (fun w => h v w) ws e'
theorem bind3 {P : List Value → Prop} (h : ∀ u v w, P [u, v, w]) : ∀ vs : List Value, vs.length = 3 → P vs := fun vs e => by
  obtain ⟨v, ws, rfl, e'⟩ := len_one e
  exact bind2 (P := fun ws => P (v :: ws)) (fun w => h v w) ws e'
theorem bind4 {P : List Value → Prop} (h : ∀ u v w z, P [u, v, w, z]) : ∀ vs : List Value, vs.length = 4 → P vs := fun vs e => by
  obtain ⟨v, ws, rfl, e'⟩ := len_one e
  exact bind3 (P := fun ws => P (v :: ws)) (fun w => h v w) ws e'
theorem kindE {env : Env} {fd : FuncData} {x : Str} {k : Option NameKind} (h : env.scope = fd.scope) (e : fd.scope.names.lookup x = k) : env.kindOf x = k := by unfold Env.kindOf; rw [h]; exact e
theorem lk_updF_self (fs : List (Str × V)) (x : Str) (d : V) : lk (updF fs x d) x = some d := by
  induction fs with
  | nil => exact lk_hit
  | cons p r ih =>
    obtain ⟨y, e⟩ := p
    unfold updF
    by_cases q : y = x
    · subst q; simp only [beq_self_eq_true, if_true]; exact lk_hit
    · rw [if_neg (by simpa using q)]; exact lk_skip (fun z => q z.symm) ih
theorem lk_updF_ne (fs : List (Str × V)) {x y : Str} (d : V) (h : y ≠ x) : lk (updF fs x d) y = lk fs y := by
  induction fs with
  | nil => exact lk_cut h rfl
  | cons p r ih =>
    obtain ⟨z, e⟩ := p
    unfold updF
    by_cases q : z = x
    · subst q
      simp only [beq_self_eq_true, if_true]
      unfold lk
      rw [List.lookup_cons, List.lookup_cons]
      have : (y == z) = false := by simpa using h
      simp only [this]
    · rw [if_neg (by simpa using q)]
      unfold lk at ih ⊢
      rw [List.lookup_cons, List.lookup_cons, ih]
theorem KExcSet.of {K K' : Frag} {C : Addr} {name : Str} (hK : K = K') (h1 : findIn K' (.ref C) "__setattr__" = some (some (.builtin "object.__setattr__"))) (h2 : ∃ cd, clsIn K' C = some cd ∧ cd.hasDict = true ∧ ∀ self, refuseLoop self "__setattr__" cd.mro = pure ()) (h3 : mroIn K' C (.type "object") = some true)
    (h4 : takerIn K' C name = some none) : KExcSet K C name := by subst hK; exact ⟨h1, h2, h3, h4⟩
theorem KExcGet.of {K K' : Frag} {C : Addr} {name : Str} (hK : K = K') (h1 : findIn K' (.ref C) "__getattribute__" = some (some (.builtin "BaseException.__getattribute__"))) (h2 : findIn K' (.ref C) "__getattr__" = some none) (h3 : mroIn K' C (.type "BaseException") = some true) (h4 : hasDictIn K' C = true) (h5 : clsOk K' C name = true) : KExcGet K C name := by
  subst hK
  refine ⟨h1, h2, h3, h4, ?_⟩
  unfold clsOk at h5
  split at h5
  · rename_i attr q; exact ⟨attr, q, h5⟩
  · cases h5
end
end Mine
namespace Mine
open PySem PySem.W PySem.Calls PySem.Spec PyProof.Rows
section
variable {X : Cx} {n : Nat} {σ : S} {E : Value → S → Prop}
theorem Call.exc' {K' : Frag} {fI C : Addr} {names : List Str} {ds : List V} {loc0 : Addr → List (Str × V)} {Q : V → S → Prop}
    {nm qn : Str} {N : Addr} {bs bm : List Value} {hdct : Bool} {sn : List Str} {sub : List Value} {ab : Bool} {col : Option Bool} {dd : Option Addr} {k0 k1 k2 k3 k5 : Option Value} {B newId initId : String}
    (FB : ExcBaseFacts B newId initId bm) (ok : Ok X (n + 1)) (hK : X.K = K') (hC : K'.lookup C = some (excClassObj nm qn C N bs bm hdct sn sub ab col dd k0 k1 k2 k3 k5 newId)) (km : KMakeExc K' C fI) (hf : fnOk K' fI = true) (hds : ds.length ≤ 100)
    (hb : ∀ vs : List Value, vs.length = names.length → ∀ S, peek K' S (bindArgs (fdAt K' fI) ⟨vs, []⟩) = some (names.zip vs)) (hl : (names.all fun x => (fdAt K' fI).scope.names.lookup x == some .local) = true) (hn : names.Nodup) (hlen : ds.length + 1 = names.length) (h0 : ∀ a, loc0 a = names.zip (.ref a :: ds))
    (h : ∀ Y a, Ok Y n → In X Y (fdAt K' fI) → (∃ L, Y.env = callEnv (fdAt K' fI) L fI) → σ.hp a = none → WAt Y (bodyAt K' fI) (execs (bodyAt K' fI) Y.env) FM ⟨loc0 a, upd σ.hp a (.exc C none)⟩ (fun fl σ' => retV fl = .none ∧ Q (.ref a) ⟨σ.loc, σ'.hp⟩) (fun c σ' => E c ⟨σ.loc, σ'.hp⟩)) : Call X (.ref C) ds σ Q E := by
  subst hK
  refine Call.exc FB ok hC km (FnIs.of hf) hds (loc0 := loc0) (fun a vs s mu inK vm => ?_) fun A' a L hA ha okL => h _ a okL ⟨rfl, rfl, rfl, rfl, rfl, rfl⟩ ⟨L, rfl⟩ ha
  rw [h0]
  exact binds_place (fun vs e => kp_binds inK (hb vs e)) hl hn (by simpa using hlen) vm
theorem Call.make' {K' : Frag} {fI C : Addr} {names : List Str} {ds : List V} {loc0 : Addr → List (Str × V)} {Q : V → S → Prop} (ok : Ok X (n + 1)) (hK : X.K = K') (km : KMake K' C fI) (hf : fnOk K' fI = true)
    (hb : ∀ vs : List Value, vs.length = names.length → ∀ S, peek K' S (bindArgs (fdAt K' fI) ⟨vs, []⟩) = some (names.zip vs)) (hl : (names.all fun x => (fdAt K' fI).scope.names.lookup x == some .local) = true) (hn : names.Nodup) (hlen : ds.length + 1 = names.length) (h0 : ∀ a, loc0 a = names.zip (.ref a :: ds))
    (h : ∀ Y a dx, Ok Y n → In X Y (fdAt K' fI) → σ.hp a = none → σ.hp dx = none → a ≠ dx → WXs Y (bodyAt K' fI) ⟨loc0 a, upd (upd σ.hp dx (.dict [])) a (.inst C dx)⟩ (fun fl σ' => retV fl = .none ∧ Q (.ref a) ⟨σ.loc, σ'.hp⟩) (fun c σ' => E c ⟨σ.loc, σ'.hp⟩)) : Call X (.ref C) ds σ Q E := by
  subst hK
  refine Call.make ok km (FnIs.of hf) (loc0 := loc0) (fun a vs s mu inK vm => ?_) fun A' a dx L hA ha hd hne okL => h _ a dx okL ⟨rfl, rfl, rfl, rfl, rfl, rfl⟩ ha hd hne
  rw [h0]
  exact binds_place (fun vs e => kp_binds inK (hb vs e)) hl hn (by simpa using hlen) vm
theorem WAt_super {fI C a : Addr} {sf y : Str} {od : Option Addr} {body : List Stmt} {p0 p1 ap np pos pos' : Pos} {Q : FV → S → Prop} {dy : V}
    {nm qn : Str} {N : Addr} {bs bm : List Value} {hdct : Bool} {sn : List Str} {sub : List Value} {ab : Bool} {col : Option Bool} {dd : Option Addr} {k0 k1 k2 k3 k5 : Option Value} {newId : String} {r : List Value}
    (FB : ExcBaseFacts "Exception" newId "Exception.__init__" bm) (ok : Ok X n) (hC : X.K.lookup C = some (excClassObj nm qn C N bs bm hdct sn sub ab col dd k0 k1 k2 k3 k5 newId)) (hbm : bm = .type "Exception" :: r)
    (ks : KSup X fI C sf) (hself : lk σ.loc sf = some (.ref a)) (h1 : σ.hp a = some (.exc C od)) (hy : lk σ.loc y = some dy) (hyk : X.env.kindOf y = some .local) (hyd : (y == ("__debug__" : Str)) = false)
    (hline : (ap.endLine == pos.line) = true) (hsw : ∀ env, swapsWith (.Call (.Attribute (.Call (.Name "super" p0) [] [] p1) "__init__" ap) [.Name y np] [] pos) none pos'.line env = pure false) (q : Q .next σ) :
    WAt X body (exec (.Expr (.Call (.Attribute (.Call (.Name "super" p0) [] [] p1) "__init__" ap) [.Name y np] [] pos) pos') X.env) FM σ Q E := fun s st =>
  super_stmt FB ok hC hbm ks hself h1 hy hyk hyd hline hsw q (Post.refl st)
theorem Ew.drop {σ : S} {s s' : Shared} {e : Value} (h : Ew X σ s (fun c σ' => ∃ hp', (∀ a o, hp' a = some o → σ'.hp a = some o) ∧ E c ⟨σ'.loc, hp'⟩) e s') : Ew X σ s E e s' := by
  obtain ⟨ea, cls, σ', P, r, x, hp', hs, q⟩ := h
  refine ⟨ea, cls, _, post_drop P hs (fun _ _ e => e), r, ?_, q⟩
  have nm : ∀ a, ¬ σ'.mu a → ¬ S.mu ⟨σ'.loc, hp'⟩ a := fun a n m => by
    cases q : hp' a with
    | none => exact m q
    | some o => exact n (by show σ'.hp a ≠ none; rw [hs a o q]; exact Option.some_ne_none _)
  obtain ⟨⟨b1, b2⟩, pe, oe, vs, a0, g, c, d, v0, hx⟩ := x
  refine ⟨⟨b1, nm _ b2⟩, pe, oe, vs, a0, g, c, d, v0, ?_⟩
  rcases hx with v1 | ⟨T, oT, ts, v1, ⟨bT, mT⟩, pT, r⟩
  · exact .inl v1
  · exact .inr ⟨T, oT, ts, v1, ⟨bT, nm _ mT⟩, pT, r⟩
theorem Call.dropE {f : Value} {ds : List V} {Q : V → S → Prop} (h : Call X f ds σ Q (fun c σ' => ∃ hp', (∀ a o, hp' a = some o → σ'.hp a = some o) ∧ E c ⟨σ'.loc, hp'⟩)) : Call X f ds σ Q E := fun vs s st vm =>
  wpAny_mono (h vs s st vm) (fun _ _ q => q) fun _ _ q => q.drop
end
end Mine
namespace Mine
open PySem PySem.W PySem.Calls PySem.Spec PyProof.Rows
theorem vms_ints {mu : Addr → Prop} {h : Heap} {vs : List Value} {ns : List Int} (x : IntsAre vs ns) : VMs mu h vs (ns.map .int) := by
  induction x with
  | nil => exact .nil
  | cons n t _ ih => exact .cons (.int n t) ih
theorem launch {prog : Program} {w : World} {K : Frag} {p : Program} {loose : List Str} {mg mb : Str → Option Value} {s₁ : Shared} {h₁ : Heap} {name : Str} {fd : FuncData} {fa : Addr} {cd : Value} {al : Addr} {vs : List Value} {ns : List Int} {m : Str → Option Value} {tk : Nat} {body : List Stmt}
    (hK : K.In s₁.heap) (T : TopRead p loose mg mb s₁.heap) (hL : s₁.heap.IsList al vs.toArray) (hI : IntsAre vs ns) (F : Fr s₁.heap s₁.heap.objs.size h₁ m) (hm : m "script" = some (.ref al)) (hk : fd.scope.kind = .function)
    (h : ∀ X : Cx, Ok X 40 → X.K = K → X.prog = prog → X.w = w → X.ctx = none → In X X fd → WXs X body ⟨[("script", .lst (ns.map .int))], fun _ => none⟩ (fun fl _ => fl = .ret (.bool true)) F0) :
    wpAny (model prog w) (callerA.deeper (envOf name fd.scope s₁.heap.objs.size fa cd)) (execs body (envOf name fd.scope s₁.heap.objs.size fa cd))
      (fun f s' => f = .ret (.bool true) ∧ ∃ h' tk', s' = { s₁ with heap := h', toks := tk' } ∧ s₁.heap.StaysIn h') (fun _ _ => False) { s₁ with heap := h₁, toks := tk } := by
  let env := envOf name fd.scope s₁.heap.objs.size fa cd
  let X : Cx := { prog := prog, w := w, K := K, p := p, loose := loose, mg := mg, mb := mb, base := s₁.heap, A := callerA.deeper env, env := env, fenv := env, L := s₁.heap.objs.size, outer := [], prot := [] }
  have hn : s₁.heap.get? s₁.heap.objs.size = none := by
    cases hq : s₁.heap.get? s₁.heap.objs.size with
    | none => rfl
    | some o => exact absurd (Heap.lt_size hq) (Nat.lt_irrefl _)
  have ok : Ok X 40 := ⟨hK, T, rfl, rfl, rfl, hk, rfl, rfl, Nat.le_refl _, by simp [X], rfl, (by intro p e; cases e), (by show 1 + claimMargin + 1 + 2 * 40 + 8 < recursionLimit; decide), (by show 4 + 3 + 20 * 40 + 300 < cLine; decide)⟩
  have hl : VM (fun _ => False) h₁ (.ref al) (.lst (ns.map .int)) := by
    obtain ⟨o, ho, hc, n, hd⟩ := hL
    exact .lst (F.keep _ _ ho) hc hd (fun z => z) (vms_ints hI)
  have mu0 : S.mu (⟨[("script", .lst (ns.map .int))], fun _ => none⟩ : S) = fun _ => False := by
    funext a; simp [S.mu]
  have st : St X ⟨[("script", .lst (ns.map .int))], fun _ => none⟩ h₁ := by
    refine ⟨F.keep, ⟨m, F.ns, fun x d e => ?_⟩, (by intro a o e; cases e), (by simp [S.mu]), (by intro a ha; cases ha), ?_⟩
    · by_cases q : x = "script"
      · subst q
        rw [show lk [(("script" : Str), V.lst (ns.map .int))] "script" = some (V.lst (ns.map .int)) from by simp [lk, List.lookup]] at e
        cases e
        exact ⟨_, hm, by rw [mu0]; exact hl⟩
      · rw [lk_cut q rfl] at e
        cases e
    · intro e he
      simp only [X, List.mem_singleton] at he
      subst he
      obtain ⟨o, es, ep, ho, hd, _⟩ := F.ns
      exact ⟨by show fd.scope.kind ≠ .module; rw [hk]; decide, _, o, es, ep, rfl, hn, by simp [S.mu], ho, hd⟩
  have run := h X ok rfl rfl rfl rfl ⟨rfl, rfl, rfl, rfl, rfl, rfl⟩ { s₁ with heap := h₁, toks := tk } st
  refine wpAny_mono run (fun f s' q => ?_) (fun e s' q => q.elim0)
  obtain ⟨fl, σ', P, r, q⟩ := q
  subst q
  obtain ⟨h', tk', e⟩ := P.upd
  have hf : f = .ret (.bool true) := by
    cases f with
    | ret v =>
      have r' : VM σ'.mu s'.heap v (.bool true) := r
      cases r'; rfl
    | next => exact r.elim
    | brk => exact r.elim
    | cont => exact r.elim
  exact ⟨hf, h', tk', e, fun b o z => by have := P.st.base b o z; rw [e] at this; exact this⟩
end Mine
namespace Mine
open PySem PySem.Builtin.Str
noncomputable def occ1 (sub : List Nat) : Nat → Nat → List Nat → List Nat
  | _, _, [] => []
  | k + 1, i, _ :: l => occ1 sub k (i + 1) l
  | 0, i, a :: l => if (a :: l).take sub.length = sub then i :: occ1 sub (sub.length - 1) (i + 1) l else occ1 sub 0 (i + 1) l
theorem occ1_zero (sub : List Nat) (i a : Nat) (l : List Nat) : occ1 sub 0 i (a :: l) = if (a :: l).take sub.length = sub then i :: occ1 sub (sub.length - 1) (i + 1) l else occ1 sub 0 (i + 1) l := by rw [occ1]
theorem occ1_nil (sub : List Nat) (k i : Nat) : occ1 sub k i [] = [] := by cases k <;> rfl
theorem occ_run {L sub : List Nat} (hs : sub ≠ []) : ∀ (l : List Nat) (i : Nat) (found : Array Nat) (free : Nat), L.drop i = l → i + l.length = L.length → found.size ≤ i →
    (forIn (List.range' i (l.length + 1)) (found, free) (StrLaws.occBody (mk L) (mk sub) L.length (L.length + 1))).run.fst.toList = found.toList ++ occ1 sub (free - i) i l
  | [], i, found, free, hd, hi, hf => by
    rw [show ([] : List Nat).length + 1 = 1 from rfl, List.range'_one, List.forIn_cons]
    unfold StrLaws.occBody
    rw [if_neg]
    · rw [occ1_nil, List.append_nil]
      rfl
    · intro h
      have h2 := h.1.2
      rw [mk_len, ← hi] at h2
      exact hs (List.length_eq_zero_iff.mp (Nat.le_zero.mp (Nat.le_of_add_le_add_left h2)))
  | a :: l, i, found, free, hd, hi, hf => by
    have hd' : L.drop (i + 1) = l := by rw [← List.drop_drop, hd]; rfl
    have hi' : i + 1 + l.length = L.length := (Nat.succ_add i l.length).trans hi
    rw [show (a :: l).length + 1 = (l.length + 1) + 1 from rfl, List.range'_succ, List.forIn_cons]
    have hat : subAt (mk L) (mk sub) i = ((a :: l).take sub.length == sub) := by
      rw [StrLaws.subAt_eq, mk_len]
      show ((L.drop i).take sub.length == sub) = _
      rw [hd]
    by_cases hfr : free ≤ i
    · have e0 : free - i = 0 := Nat.sub_eq_zero_of_le hfr
      by_cases hm : (a :: l).take sub.length = sub
      · have hlen : sub.length ≤ (a :: l).length := Nat.le_trans (Nat.le_of_eq (congrArg List.length hm).symm) (List.length_take_le' _ _)
        unfold StrLaws.occBody
        rw [if_pos ⟨⟨⟨Nat.lt_succ_of_le (Nat.le_trans hf (Nat.le.intro hi)), hfr⟩, by rw [mk_len, ← hi]; exact Nat.add_le_add_left hlen i⟩, by rw [hat]; exact beq_iff_eq.mpr hm⟩]
        have ih := occ_run (L := L) hs l (i + 1) (found.push i) (i + (mk sub).length) hd' hi' (by rw [Array.size_push]; exact Nat.succ_le_succ hf)
        rw [mk_len] at ih
        show (forIn (List.range' (i + 1) (l.length + 1)) (found.push i, i + (mk sub).length) (StrLaws.occBody (mk L) (mk sub) L.length (L.length + 1))).run.fst.toList = _
        rw [mk_len, ih, e0, occ1_zero, if_pos hm, Nat.add_sub_add_left, Array.toList_push, List.append_assoc]
        rfl
      · unfold StrLaws.occBody
        rw [if_neg (fun h => hm (by have := h.2; rw [hat] at this; exact beq_iff_eq.mp this))]
        have ih := occ_run (L := L) hs l (i + 1) found free hd' hi' (Nat.le_succ_of_le hf)
        show (forIn (List.range' (i + 1) (l.length + 1)) (found, free) (StrLaws.occBody (mk L) (mk sub) L.length (L.length + 1))).run.fst.toList = _
        rw [ih, e0, Nat.sub_eq_zero_of_le (Nat.le_succ_of_le hfr), occ1_zero, if_neg hm]
    · unfold StrLaws.occBody
      rw [if_neg (fun h => hfr h.1.1.2)]
      have ih := occ_run (L := L) hs l (i + 1) found free hd' hi' (Nat.le_succ_of_le hf)
      show (forIn (List.range' (i + 1) (l.length + 1)) (found, free) (StrLaws.occBody (mk L) (mk sub) L.length (L.length + 1))).run.fst.toList = _
      rw [ih, ← Nat.succ_pred_eq_of_pos (Nat.sub_pos_of_lt (Nat.lt_of_not_le hfr))]
      rfl
theorem occ_is {L sub : List Nat} (hs : sub ≠ []) : occurrences (mk L) (mk sub) 0 (mk L).length ((mk L).length + 1) = occ1 sub 0 0 L := by
  rw [StrLaws.occ_eq, mk_len, Nat.sub_zero]
  have := occ_run (L := L) hs L 0 #[] 0 rfl (by simp) (by simp)
  rw [this]; simp
noncomputable def repR (sub new : List Nat) : Nat → List Nat → List Nat
  | _, [] => []
  | k + 1, _ :: l => repR sub new k l
  | 0, a :: l => if (a :: l).take sub.length = sub then new ++ repR sub new (sub.length - 1) l else a :: repR sub new 0 l
theorem sub_list (L : List Nat) (a b : Nat) : (strSub (mk L) a b).cps.toList = (L.drop a).take (b - a) := by rw [StrLaws.strSub_toList]
theorem join_cons (sep x : Str) (r : List Str) (h : r ≠ []) : (Str.join sep (x :: r)).cps.toList = x.cps.toList ++ sep.cps.toList ++ (Str.join sep r).cps.toList := by
  cases r with
  | nil => exact absurd rfl h
  | cons y r =>
    show (x ++ sep ++ Str.join sep (y :: r)).cps.toList = _
    rw [Str.cps_append, Str.cps_append]; simp
theorem repR_nil (sub new : List Nat) (k : Nat) : repR sub new k [] = [] := by cases k <;> rfl
theorem parts_rep {L sub new : List Nat} (hs : sub ≠ []) : ∀ (l : List Nat) (i k a : Nat), L.drop i = l → i + l.length = L.length → (k = 0 ∧ a ≤ i ∨ k ≠ 0 ∧ a = i + k) →
    (Str.join (mk new) (StrLaws.partsFrom (mk L) sub.length a (occ1 sub k i l))).cps.toList = (L.drop a).take (i - a) ++ repR sub new k l
  | [], i, k, a, hd, hi, ha => by
    rw [occ1_nil, repR_nil, List.append_nil]
    show (strSub (mk L) a (mk L).length).cps.toList = _
    rw [sub_list, mk_len, ← show i = L.length from hi]
  | c :: l, i, 0, a, hd, hi, ha => by
    have hd' : L.drop (i + 1) = l := by rw [← List.drop_drop, hd]; rfl
    have hi' : i + 1 + l.length = L.length := (Nat.succ_add i l.length).trans hi
    have ha' : a ≤ i := ha.elim (fun h => h.2) fun h => absurd rfl h.1
    unfold occ1 repR
    by_cases hm : (c :: l).take sub.length = sub
    · rw [if_pos hm, if_pos hm]
      have hs0 : 0 < sub.length := List.length_pos_iff.mpr hs
      have ih := parts_rep (L := L) (new := new) hs l (i + 1) (sub.length - 1) (i + sub.length) hd' hi' (by
        by_cases h1 : sub.length - 1 = 0
        · exact .inl ⟨h1, Nat.add_le_add_left (Nat.sub_eq_zero_iff_le.mp h1) i⟩
        · exact .inr ⟨h1, by rw [Nat.add_assoc, Nat.add_sub_cancel' hs0]⟩)
      obtain ⟨p, r, e⟩ := StrLaws.partsFrom_ne (mk L) sub.length (i + sub.length) (occ1 sub (sub.length - 1) (i + 1) l)
      show (Str.join (mk new) (strSub (mk L) a i :: StrLaws.partsFrom (mk L) sub.length (i + sub.length) (occ1 sub (sub.length - 1) (i + 1) l))).cps.toList = _
      rw [join_cons _ _ _ (by rw [e]; exact List.cons_ne_nil _ _), ih, sub_list, Nat.sub_eq_zero_of_le (Nat.add_le_add_left hs0 i), List.take_zero, List.nil_append, List.append_assoc]
    · rw [if_neg hm, if_neg hm]
      have ih := parts_rep (L := L) (new := new) hs l (i + 1) 0 a hd' hi' (.inl ⟨rfl, Nat.le_succ_of_le ha'⟩)
      rw [ih, Nat.succ_sub ha', List.take_add_one]
      have e2 : (L.drop a)[i - a]? = some c := by
        rw [List.getElem?_drop, Nat.add_sub_cancel' ha', ← List.head?_drop, hd]
        rfl
      rw [e2, List.append_assoc]
      rfl
  | c :: l, i, k + 1, a, hd, hi, ha => by
    have hd' : L.drop (i + 1) = l := by rw [← List.drop_drop, hd]; rfl
    have hi' : i + 1 + l.length = L.length := (Nat.succ_add i l.length).trans hi
    have ha' : a = i + (k + 1) := ha.elim (fun h => absurd h.1 (Nat.succ_ne_zero k)) fun h => h.2
    have ih := parts_rep (L := L) (new := new) hs l (i + 1) k a hd' hi' (by
      cases k with
      | zero => exact .inl ⟨rfl, Nat.le_of_eq ha'⟩
      | succ k => exact .inr ⟨Nat.succ_ne_zero k, ha'.trans (by rw [Nat.add_assoc i 1, Nat.add_comm 1])⟩)
    show (Str.join (mk new) (StrLaws.partsFrom (mk L) sub.length a (occ1 sub k (i + 1) l))).cps.toList = (L.drop a).take (i - a) ++ repR sub new k l
    rw [ih, Nat.sub_eq_zero_of_le (m := a) (n := i + 1) (by rw [ha']; exact Nat.add_le_add_left (Nat.le_add_left 1 k) i), Nat.sub_eq_zero_of_le (m := a) (n := i) (by rw [ha']; exact Nat.le_add_right i _)]
theorem replL_eq {x y z : List Nat} (hy : y ≠ []) : replL x y z = repR y z 0 x := by
  have hyl : ((mk y).length == 0) = false := by rw [mk_len]; cases y with | nil => exact absurd rfl hy | cons _ _ => rfl
  have key := parts_rep (L := x) (new := z) hy x 0 0 0 rfl (Nat.zero_add _) (.inl ⟨rfl, Nat.le_refl 0⟩)
  unfold replL Txt.replace
  rw [occ_is hy, hyl]
  simp only [Bool.false_and, Bool.or_false]
  cases h : (occ1 y 0 0 x).isEmpty
  · simp only [Bool.false_eq_true, if_false]
    rw [StrLaws.glued_eq_join, StrLaws.partsBetween_eq, mk_len, key]; simp
  · simp only [if_true]
    have e : occ1 y 0 0 x = [] := by simpa using h
    rw [e] at key
    have : (Str.join (mk z) (StrLaws.partsFrom (mk x) y.length 0 [])).cps.toList = (strSub (mk x) 0 (mk x).length).cps.toList := rfl
    rw [this, sub_list, mk_len] at key
    simpa using key
noncomputable def spl1 (c : Nat) : List Nat → List (List Nat)
  | [] => [[]]
  | a :: l => if a = c then [] :: spl1 c l else match spl1 c l with
    | [] => [[a]]
    | h :: t => (a :: h) :: t
theorem spl1_ne (c : Nat) (l : List Nat) : ∃ h t, spl1 c l = h :: t := by
  cases l with
  | nil => exact ⟨_, _, rfl⟩
  | cons a l => unfold spl1; split; · exact ⟨_, _, rfl⟩
                split <;> exact ⟨_, _, rfl⟩
theorem parts_spl {L : List Nat} {c : Nat} : ∀ (l : List Nat) (i a : Nat), L.drop i = l → i + l.length = L.length → a ≤ i →
    ∃ h t, spl1 c l = h :: t ∧ (StrLaws.partsFrom (mk L) 1 a (occ1 [c] 0 i l)).map (fun p => p.cps.toList) = ((L.drop a).take (i - a) ++ h) :: t
  | [], i, a, hd, hi, ha => by
    refine ⟨[], [], rfl, ?_⟩
    show [(strSub (mk L) a (mk L).length).cps.toList] = _
    rw [sub_list, mk_len]
    simp at hi
    simp [hi]
  | d :: l, i, a, hd, hi, ha => by
    have hd' : L.drop (i + 1) = l := by rw [← List.drop_drop, hd]; rfl
    have hi' : i + 1 + l.length = L.length := by simp at hi; omega
    unfold occ1 spl1
    by_cases hm : d = c
    · subst hm
      obtain ⟨h, t, e1, e2⟩ := parts_spl (L := L) (c := d) l (i + 1) (i + 1) hd' hi' (Nat.le_refl _)
      rw [if_pos rfl, if_pos (by simp)]
      refine ⟨[], spl1 d l, rfl, ?_⟩
      show (strSub (mk L) a i).cps.toList :: (StrLaws.partsFrom (mk L) 1 (i + 1) (occ1 [d] 0 (i + 1) l)).map (fun p => p.cps.toList) = _
      rw [e2, e1, sub_list]; simp
    · obtain ⟨h, t, e1, e2⟩ := parts_spl (L := L) (c := c) l (i + 1) a hd' hi' (by omega)
      rw [if_neg hm, if_neg (by simp; exact hm), e1]
      refine ⟨d :: h, t, rfl, ?_⟩
      rw [e2]
      have e3 : i + 1 - a = (i - a) + 1 := by omega
      have e4 : (L.drop a)[i - a]? = some d := by
        rw [List.getElem?_drop, show a + (i - a) = i from by omega]
        have := congrArg (fun z : List Nat => z[0]?) hd
        simpa using this
      rw [e3, List.take_add_one, e4]; simp
theorem splitL_eq {x : List Nat} {c : Nat} (hk : strKind (mk [c]) = 1) : splitL x [c] = spl1 c x := by
  have hk' : decide (strKind (mk x) < strKind (mk [c])) = false := by
    rw [hk]
    have : 1 ≤ strKind (mk x) := by unfold Builtin.Str.strKind; split <;> (try split) <;> omega
    exact decide_eq_false (by omega)
  obtain ⟨h, t, e1, e2⟩ := parts_spl (L := x) (c := c) x 0 0 rfl (by simp) (Nat.le_refl _)
  unfold splitL Txt.split
  rw [hk', Bool.or_false, mk_len, mk_len]
  by_cases hx : x.length < [c].length
  · have : x = [] := List.length_eq_zero_iff.mp (Nat.lt_one_iff.mp hx)
    subst this
    simp [spl1]
  · rw [if_neg (by simpa using hx)]
    have ho := occ_is (L := x) (sub := [c]) (by simp)
    rw [mk_len] at ho
    rw [ho]
    cases hh : (occ1 [c] 0 0 x).isEmpty
    · simp only [Bool.false_eq_true, if_false]
      rw [StrLaws.partsBetween_eq]
      show (StrLaws.partsFrom (mk x) 1 0 _).map _ = _
      rw [e2, e1]; simp
    · simp only [if_true]
      have e : occ1 [c] 0 0 x = [] := by simpa using hh
      rw [e] at e2
      have e2' : [(strSub (mk x) 0 (mk x).length).cps.toList] = ((x.drop 0).take (0 - 0) ++ h) :: t := e2
      rw [sub_list, mk_len] at e2'
      simp at e2'
      obtain ⟨rfl, rfl⟩ := e2'
      rw [e1]; simp
theorem occ_count (c : Nat) : ∀ (l : List Nat) (i : Nat), (occ1 [c] 0 i l).length = l.count c
  | [], i => rfl
  | d :: l, i => by
    unfold occ1
    by_cases hm : d = c
    · subst hm
      rw [if_pos (by simp)]
      have := occ_count d l (i + 1)
      simp [this]
    · rw [if_neg (by simp; exact hm), occ_count c l (i + 1)]
      simp [List.count_cons, hm]
theorem countL_eq (x : List Nat) (c : Nat) : countL x [c] = (x.count c : Nat) := by
  unfold countL Txt.count
  rw [occ_is (by simp), occ_count]
noncomputable def jn (sep : List Nat) : List (List Nat) → List Nat
  | [] => []
  | [x] => x
  | x :: y :: r => x ++ sep ++ jn sep (y :: r)
theorem joinL_eq (sep : List Nat) (ls : List (List Nat)) : joinL sep ls = jn sep ls := by
  unfold joinL Txt.join
  rw [StrLaws.glued_eq_join]
  induction ls with
  | nil => rfl
  | cons x r ih =>
    cases r with
    | nil => rfl
    | cons y r =>
      rw [List.map_cons, join_cons _ _ _ (by simp), ih]; rfl
theorem jn_nil (ls : List (List Nat)) : jn [] ls = ls.flatten := by
  induction ls with
  | nil => rfl
  | cons x r ih =>
    cases r with
    | nil => simp [jn]
    | cons y r => rw [jn, ih]; simp
end Mine
namespace Mine
noncomputable def rs : List Nat → List (List Nat) × Bool
  | [] => ([], false)
  | [c] => if c = 92 then ([], true) else ([[c]], false)
  | c :: d :: r => if c = 92 then (([92, d] :: (rs r).1), (rs r).2) else ([c] :: (rs (d :: r)).1, (rs (d :: r)).2)
theorem rs_esc (d : Nat) (r : List Nat) : rs (92 :: d :: r) = ([92, d] :: (rs r).1, (rs r).2) := by rw [rs]; simp
theorem rs_plain {c : Nat} (r : List Nat) (h : c ≠ 92) : rs (c :: r) = ([c] :: (rs r).1, (rs r).2) := by
  cases r with
  | nil => simp [rs, h]
  | cons d r => rw [rs]; simp [h]
theorem rs_flat (l : List Nat) : (rs l).1.flatten ++ (if (rs l).2 then [92] else []) = l := by
  induction l using rs.induct with
  | case1 => rfl
  | case2 => rfl
  | case3 c h => simp [rs, h]
  | case4 d r ih => rw [rs_esc]; simpa using ih
  | case5 c d r h ih => rw [rs_plain _ h]; simpa using ih
theorem rs_sign (l : List Nat) : ∀ s ∈ (rs l).1, s ≠ [] ∧ s.length ≤ 2 := by
  induction l using rs.induct with
  | case1 => simp [rs]
  | case2 => simp [rs]
  | case3 c h => simp [rs, h]
  | case4 d r ih => rw [rs_esc]; simp; exact ih
  | case5 c d r h ih => rw [rs_plain _ h]; simp; exact ih
noncomputable def skp : List (List Nat) → List (List Nat)
  | [] => []
  | s :: r => if s = [10] then r else skp r
theorem skp_len (l : List (List Nat)) : (skp l).length ≤ l.length := by
  induction l with
  | nil => simp [skp]
  | cons s r ih => unfold skp; split <;> simp <;> omega
noncomputable def kp : List (List Nat) → List (List Nat)
  | [] => []
  | s :: r => if s = [35] then kp (skp r) else if s = [32] ∨ s = [10] then kp r else s :: kp r
termination_by l => l.length
decreasing_by
  · have := skp_len r; simp; omega
  · simp
  · simp
theorem kp_len (l : List (List Nat)) : (kp l).length ≤ l.length := by
  induction l using kp.induct with
  | case1 => simp [kp]
  | case2 r ih => rw [kp]; simp; have := skp_len r; omega
  | case3 s r h1 h2 ih => rw [kp]; simp [h1, h2]; omega
  | case4 s r h1 h2 ih => rw [kp]; simp [h1, h2]; omega
theorem skp_mem (l : List (List Nat)) : ∀ k ∈ skp l, k ∈ l := by
  induction l with
  | nil => simp [skp]
  | cons s r ih =>
    unfold skp
    split
    · intro k hk; simp [hk]
    · intro k hk; have := ih k hk; simp [this]
theorem kp_mem (l : List (List Nat)) : ∀ k ∈ kp l, k ∈ l := by
  induction l using kp.induct with
  | case1 => simp [kp]
  | case2 r ih => rw [kp]; simp; intro k hk; have := skp_mem r k (ih k hk); simp [this]
  | case3 s r h1 h2 ih => rw [kp]; simp [h1, h2]; intro k hk; simp [ih k hk]
  | case4 s r h1 h2 ih =>
    rw [kp]; simp only [h1, h2, if_false]
    intro k hk
    rcases List.mem_cons.mp hk with rfl | hk
    · simp
    · simp [ih k hk]
end Mine
namespace Mine
open PySem PySem.W PyProof.Rows
set_option maxHeartbeats 8000000 in
open_top hd for PySem.Challenge.rw_ij0062_06
end Mine
namespace Mine
open PySem PySem.W PySem.Calls PySem.Spec PyProof.Rows Builtin Builtin.ObjectAttr
noncomputable abbrev KK (p : Params) : Frag := hd.heap_39 p
noncomputable abbrev CT : Addr := 133
noncomputable abbrev CP : Addr := 41
section
variable (p : Params)
theorem f_init : fnOk (KK p) 58 = true := by kernel_rfl
theorem f_next : fnOk (KK p) 65 = true := by kernel_rfl
theorem f_get : fnOk (KK p) 79 = true := by kernel_rfl
theorem f_seek : fnOk (KK p) 115 = true := by kernel_rfl
theorem f_perr : fnOk (KK p) 38 = true := by kernel_rfl
theorem f_kept : fnOk (KK p) 144 = true := by kernel_rfl
theorem f_sought : fnOk (KK p) 151 = true := by kernel_rfl
theorem f_cut : fnOk (KK p) 158 = true := by kernel_rfl
theorem g_err : nsIn (KK p) mainGlobals "error_constants" = some (some (.ref CP)) := by kernel_rfl
theorem g_perr : nsIn (KK p) mainGlobals "PatternError" = some (some (.ref CP)) := by kernel_rfl
theorem g_tok : nsIn (KK p) mainGlobals "Tokenizer" = some (some (.ref CT)) := by kernel_rfl
theorem g_kept : nsIn (KK p) mainGlobals "_law_kept" = some (some (.ref 144)) := by kernel_rfl
theorem g_sought : nsIn (KK p) mainGlobals "_law_sought" = some (some (.ref 151)) := by kernel_rfl
theorem g_cut : nsIn (KK p) mainGlobals "_law_cut" = some (some (.ref 158)) := by kernel_rfl
theorem b_len : nsIn (KK p) mainGlobals "len" = some none := by kernel_rfl
theorem b_sum : nsIn (KK p) mainGlobals "sum" = some none := by kernel_rfl
theorem b_range : nsIn (KK p) mainGlobals "range" = some none := by kernel_rfl
theorem b_enum : nsIn (KK p) mainGlobals "enumerate" = some none := by kernel_rfl
theorem b_isinst : nsIn (KK p) mainGlobals "isinstance" = some none := by kernel_rfl
theorem b_str : nsIn (KK p) mainGlobals "str" = some none := by kernel_rfl
theorem b_ierr : nsIn (KK p) mainGlobals "IndexError" = some none := by kernel_rfl
theorem b_super : nsIn (KK p) mainGlobals "super" = some none := by kernel_rfl
theorem km_next : KMeth (KK p) CT "_Tokenizer__next" 65 := .of rfl (by kernel_rfl) (by kernel_rfl) (by kernel_rfl) (by kernel_rfl)
theorem km_get : KMeth (KK p) CT "get" 79 := .of rfl (by kernel_rfl) (by kernel_rfl) (by kernel_rfl) (by kernel_rfl)
theorem km_seek : KMeth (KK p) CT "seek" 115 := .of rfl (by kernel_rfl) (by kernel_rfl) (by kernel_rfl) (by kernel_rfl)
theorem kg_index : KGet (KK p) CT "index" := .of rfl (by kernel_rfl) (by kernel_rfl) (by kernel_rfl)
theorem kg_next : KGet (KK p) CT "next" := .of rfl (by kernel_rfl) (by kernel_rfl) (by kernel_rfl)
theorem kg_string : KGet (KK p) CT "string" := .of rfl (by kernel_rfl) (by kernel_rfl) (by kernel_rfl)
theorem kg_dec : KGet (KK p) CT "decoded_string" := .of rfl (by kernel_rfl) (by kernel_rfl) (by kernel_rfl)
theorem kg_istext : KGet (KK p) CT "istext" := .of rfl (by kernel_rfl) (by kernel_rfl) (by kernel_rfl)
theorem ks_index : KSet (KK p) CT "index" := .of rfl (by kernel_rfl) (by kernel_rfl) (by kernel_rfl) (by kernel_rfl)
theorem ks_next : KSet (KK p) CT "next" := .of rfl (by kernel_rfl) (by kernel_rfl) (by kernel_rfl) (by kernel_rfl)
theorem ks_string : KSet (KK p) CT "string" := .of rfl (by kernel_rfl) (by kernel_rfl) (by kernel_rfl) (by kernel_rfl)
theorem ks_dec : KSet (KK p) CT "decoded_string" := .of rfl (by kernel_rfl) (by kernel_rfl) (by kernel_rfl) (by kernel_rfl)
theorem ks_istext : KSet (KK p) CT "istext" := .of rfl (by kernel_rfl) (by kernel_rfl) (by kernel_rfl) (by kernel_rfl)
theorem km_make : KMake (KK p) CT 58 := ⟨by kernel_rfl, by kernel_rfl, by kernel_rfl⟩
theorem km_exc : KMakeExc (KK p) CP 38 := ⟨by kernel_rfl, by kernel_rfl, by kernel_rfl, by kernel_rfl, by kernel_rfl⟩
theorem kx_exc : KExc (KK p) CP := .of rfl (by kernel_rfl) (by kernel_rfl) (by kernel_rfl)
theorem kc_exc : ∃ nm q N bs hdct sn sub ab col dd k0 k1 k2 k3 k5 newId, (KK p).lookup CP = some (excClassObj nm q CP N bs [.type "Exception", .type "BaseException", .type "object"] hdct sn sub ab col dd k0 k1 k2 k3 k5 newId) ∧ newId = "Exception.__new__" :=
  ⟨_, _, _, _, _, _, _, _, _, _, _, _, _, _, _, _, rfl, rfl⟩
theorem kxs_cls : ∃ cd, clsIn (KK p) CP = some cd ∧ cd.hasDict = true ∧ ∀ self, refuseLoop self "__setattr__" cd.mro = pure () :=
  ⟨_, rfl, rfl, fun self => by
    show refuseLoop self "__setattr__" [.ref CP, .type "Exception", .type "BaseException", .type "object"] = _
    rw [refuseLoop_ref]
    kernel_rfl⟩
theorem kxs_msg : KExcSet (KK p) CP "msg" := .of rfl (by kernel_rfl) (kxs_cls p) (by kernel_rfl) (by kernel_rfl)
theorem kxs_pattern : KExcSet (KK p) CP "pattern" := .of rfl (by kernel_rfl) (kxs_cls p) (by kernel_rfl) (by kernel_rfl)
theorem kxs_pos : KExcSet (KK p) CP "pos" := .of rfl (by kernel_rfl) (kxs_cls p) (by kernel_rfl) (by kernel_rfl)
theorem kxs_lineno : KExcSet (KK p) CP "lineno" := .of rfl (by kernel_rfl) (kxs_cls p) (by kernel_rfl) (by kernel_rfl)
theorem kxs_colno : KExcSet (KK p) CP "colno" := .of rfl (by kernel_rfl) (kxs_cls p) (by kernel_rfl) (by kernel_rfl)
theorem kxg_lineno : KExcGet (KK p) CP "lineno" := .of rfl (by kernel_rfl) (by kernel_rfl) (by kernel_rfl) (by kernel_rfl) (by kernel_rfl)
theorem kxg_colno : KExcGet (KK p) CP "colno" := .of rfl (by kernel_rfl) (by kernel_rfl) (by kernel_rfl) (by kernel_rfl) (by kernel_rfl)
end
end Mine
namespace Mine
open PySem PySem.W PySem.Calls PySem.Spec PyProof.Rows
theorem s_nl : (Str.ofString "\n").cps.toList = [10] := by decide +kernel
theorem c_err {pp : Params} {X : Cx} {n : Nat} {σ : S} {E : Value → S → Prop} {m l : List Nat} {p : Nat} {Q : V → S → Prop} (ok : Ok X (n + 1)) (hK : X.K = KK pp) (hP : X.prog = PySem.Challenge.rw_ij0062_06.row.prog) (hm : m.length ≤ 1000) (hl : l.length ≤ 1000) (hp : p ≤ 100000)
    (q : ∀ a d hp', σ.hp a = none → hp' a = some (.exc CP (some d)) → (∀ b o, σ.hp b = some o → hp' b = some o) → Q (.ref a) ⟨σ.loc, hp'⟩) : Call X (.ref CP) [.str m, .str l, .int p] σ Q E := by
  obtain ⟨nm, qn, N, bs, hdct, sn, sub, ab, col, dd, k0, k1, k2, k3, k5, newId, hC, rfl⟩ := kc_exc pp
  refine Call.exc' (names := ["self", "msg", "pattern", "pos"]) (loc0 := fun a => [("self", .ref a), ("msg", .str m), ("pattern", .str l), ("pos", .int p)]) PySem.F.excBase_Exception ok hK hC (km_exc _) (f_perr _) (by simp) (bind4 fun _ _ _ _ _ => by kernel_rfl) (by kernel_rfl) (by decide +kernel) rfl (fun _ => rfl) fun Y a okY hI hE ha => ?_
  have hKY : Y.K = KK pp := hI.K.trans hK
  obtain ⟨L, hE⟩ := hE
  have hCY : Y.K.lookup CP = some (excClassObj nm qn CP N bs [.type "Exception", .type "BaseException", .type "object"] hdct sn sub ab col dd k0 k1 k2 k3 k5 "Exception.__new__") := by rw [hKY]; exact hC
  generalize hcur : upd σ.hp a (.exc CP none) = hp₁
  have e1 : hp₁ a = some (.exc CP none) := by rw [← hcur]; exact upd_self
  have e3 : ∀ b o, σ.hp b = some o → hp₁ b = some o := fun b o e => by
    rw [← hcur, upd_ne (fun z => by rw [z, ha] at e; cases e)]; exact e
  clear hcur
  refine WAt.hide fun Q1 E1 hQ1 hE1 => ?_
  conv in execs (bodyAt _ _) _ => arg 1; whnf
  refine WAt_cons ?_
  ((try dsimp only); ((with_reducible refine WX_SetAttr (hs := ?hsz48) ?_); (case hsz48 => intro _; rfl)))
  ((try dsimp only); ((with_reducible refine W_local (d := ?dz49) (by assumption) ?hkz49 ?hlz49 ?qz49 ?hdz49); (case hkz49 => (have hh := In.scope ‹In _ _ _›; exact kindE hh (by kernel_rfl))); (case hlz49 => ((with_reducible refine lk_skip ?hne2z49 ?hrest2z49); (case hne2z49 => decide +kernel); (with_reducible exact lk_hit))); (case hdz49 => decide +kernel); (try dsimp only)))
  ((try dsimp only); ((with_reducible refine W_local (d := ?dz50) (by assumption) ?hkz50 ?hlz50 ?qz50 ?hdz50); (case hkz50 => (have hh := In.scope ‹In _ _ _›; exact kindE hh (by kernel_rfl))); (case hlz50 => ((with_reducible exact lk_hit))); (case hdz50 => decide +kernel); (try dsimp only)))
  refine sa_exc0 okY e1 (hKY ▸ kxs_msg _) fun d hd => ?_
  replace hd : hp₁ d = none := hd
  have had : a ≠ d := fun z => by rw [← z, e1] at hd; cases hd
  have ud : ∀ b o, σ.hp b = some o → b ≠ d := fun b o e z => by rw [← z, e3 b o e] at hd; cases hd
  have ua : ∀ b o, σ.hp b = some o → b ≠ a := fun b o e z => by rw [z, ha] at e; cases e
  generalize hcur : upd (upd hp₁ a (.exc CP (some d))) d (.dict [("msg", .str m)]) = hp₂
  have g1 : hp₂ a = some (.exc CP (some d)) := by rw [← hcur, upd_ne had, upd_self]
  have g2 : hp₂ d = some (.dict [("msg", .str m)]) := by rw [← hcur, upd_self]
  have g3 : ∀ b o, σ.hp b = some o → hp₂ b = some o := fun b o e => by rw [← hcur, upd_ne (ud b o e), upd_ne (ua b o e)]; exact e3 b o e
  clear hcur
  generalize hfs : ([("msg", .str m)] : List (Str × V)) = fs at g2
  have hfl : fs.length ≤ 1 := by rw [← hfs]; simp
  clear hfs
  dsimp only
  refine WAt_cons ?_
  ((try dsimp only); ((with_reducible refine WX_SetAttr (hs := ?hsz51) ?_); (case hsz51 => intro _; rfl)))
  ((try dsimp only); ((with_reducible refine W_local (d := ?dz52) (by assumption) ?hkz52 ?hlz52 ?qz52 ?hdz52); (case hkz52 => (have hh := In.scope ‹In _ _ _›; exact kindE hh (by kernel_rfl))); (case hlz52 => ((with_reducible refine lk_skip ?hne3z52 ?hrest3z52); (case hne3z52 => decide +kernel); (with_reducible refine lk_skip ?hne2z52 ?hrest2z52); (case hne2z52 => decide +kernel); (with_reducible exact lk_hit))); (case hdz52 => decide +kernel); (try dsimp only)))
  ((try dsimp only); ((with_reducible refine W_local (d := ?dz53) (by assumption) ?hkz53 ?hlz53 ?qz53 ?hdz53); (case hkz53 => (have hh := In.scope ‹In _ _ _›; exact kindE hh (by kernel_rfl))); (case hlz53 => ((with_reducible exact lk_hit))); (case hdz53 => decide +kernel); (try dsimp only)))
  have stp : ∀ (hp : Addr → Option HO) (o : HO), hp a = some (.exc CP (some d)) → (∀ b o, σ.hp b = some o → hp b = some o) → upd hp d o a = some (.exc CP (some d)) ∧ upd hp d o d = some o ∧ ∀ b o', σ.hp b = some o' → upd hp d o b = some o' := fun hp o h1 h3 =>
    ⟨by rw [upd_ne had]; exact h1, upd_self, fun b o' e => by rw [upd_ne (ud b o' e)]; exact h3 b o' e⟩
  refine sa_exc1 okY g1 g2 (hKY ▸ kxs_pattern _) (by omega) ?_
  obtain ⟨h1, h2, h3⟩ := stp _ (.dict (updF fs "pattern" (.str l))) g1 g3
  have hl2 := updF_length fs "pattern" (.str l)
  generalize updF fs "pattern" (.str l) = fs2 at h1 h2 h3 hl2 ⊢
  generalize upd hp₂ d (.dict fs2) = hp₃ at h1 h2 h3 ⊢
  clear g1 g2 g3
  dsimp only
  refine WAt_cons ?_
  ((try dsimp only); ((with_reducible refine WX_SetAttr (hs := ?hsz54) ?_); (case hsz54 => intro _; rfl)))
  ((try dsimp only); ((with_reducible refine W_local (d := ?dz55) (by assumption) ?hkz55 ?hlz55 ?qz55 ?hdz55); (case hkz55 => (have hh := In.scope ‹In _ _ _›; exact kindE hh (by kernel_rfl))); (case hlz55 => ((with_reducible refine lk_skip ?hne4z55 ?hrest4z55); (case hne4z55 => decide +kernel); (with_reducible refine lk_skip ?hne3z55 ?hrest3z55); (case hne3z55 => decide +kernel); (with_reducible refine lk_skip ?hne2z55 ?hrest2z55); (case hne2z55 => decide +kernel); (with_reducible exact lk_hit))); (case hdz55 => decide +kernel); (try dsimp only)))
  ((try dsimp only); ((with_reducible refine W_local (d := ?dz56) (by assumption) ?hkz56 ?hlz56 ?qz56 ?hdz56); (case hkz56 => (have hh := In.scope ‹In _ _ _›; exact kindE hh (by kernel_rfl))); (case hlz56 => ((with_reducible exact lk_hit))); (case hdz56 => decide +kernel); (try dsimp only)))
  refine sa_exc1 okY h1 h2 (hKY ▸ kxs_pos _) (by omega) ?_
  obtain ⟨i1, i2, i3⟩ := stp _ (.dict (updF fs2 "pos" (.int p))) h1 h3
  have hl3 := updF_length fs2 "pos" (.int p)
  generalize updF fs2 "pos" (.int p) = fs3 at i1 i2 i3 hl3 ⊢
  generalize upd hp₃ d (.dict fs3) = hp₄ at i1 i2 i3 ⊢
  clear h1 h2 h3
  dsimp only
  refine WAt_cons ?_
  ((try dsimp only); (with_reducible refine WX_If ?_))
  ((try dsimp only); (with_reducible refine WT_And2 ?_))
  ((try dsimp only); ((with_reducible refine WT_Compare (hm := ?hmz59) ?_); (case hmz59 => with_unfolding_all rfl)))
  ((try dsimp only); ((with_reducible refine W_local (d := ?dz60) (by assumption) ?hkz60 ?hlz60 ?qz60 ?hdz60); (case hkz60 => (have hh := In.scope ‹In _ _ _›; exact kindE hh (by kernel_rfl))); (case hlz60 => ((with_reducible refine lk_skip ?hne3z60 ?hrest3z60); (case hne3z60 => decide +kernel); (with_reducible refine lk_skip ?hne2z60 ?hrest2z60); (case hne2z60 => decide +kernel); (with_reducible exact lk_hit))); (case hdz60 => decide +kernel); (try dsimp only)))
  ((try dsimp only); ((with_reducible refine W_none ?_); (try dsimp only)))
  refine o_notnone trivial (t_bool ?_)
  rw [if_pos (by rfl)]
  ((try dsimp only); ((with_reducible refine WT_Compare (hm := ?hmz62) ?_); (case hmz62 => with_unfolding_all rfl)))
  ((try dsimp only); ((with_reducible refine W_local (d := ?dz63) (by assumption) ?hkz63 ?hlz63 ?qz63 ?hdz63); (case hkz63 => (have hh := In.scope ‹In _ _ _›; exact kindE hh (by kernel_rfl))); (case hlz63 => ((with_reducible refine lk_skip ?hne4z63 ?hrest4z63); (case hne4z63 => decide +kernel); (with_reducible refine lk_skip ?hne3z63 ?hrest3z63); (case hne3z63 => decide +kernel); (with_reducible refine lk_skip ?hne2z63 ?hrest2z63); (case hne2z63 => decide +kernel); (with_reducible exact lk_hit))); (case hdz63 => decide +kernel); (try dsimp only)))
  ((try dsimp only); ((with_reducible refine W_none ?_); (try dsimp only)))
  refine o_notnone trivial (t_bool ?_)
  rw [if_pos (by rfl)]
  ((try dsimp only); (with_reducible refine WXs_cons ?_))
  ((try dsimp only); (with_reducible refine WX_Assign (hs := ?hsz66) (by assumption) ?hkz66 ?_); (case hsz66 => intro _; rfl); (case hkz66 => (have hh := In.scope ‹In _ _ _›; exact kindE hh (by kernel_rfl))))
  ((try dsimp only); (with_reducible refine W_BinOp ?_))
  refine W_str rfl ?_
  refine W_Tuple ?_
  refine WA_cons ?_
  ((try dsimp only); ((with_reducible refine W_local (d := ?dz68) (by assumption) ?hkz68 ?hlz68 ?qz68 ?hdz68); (case hkz68 => (have hh := In.scope ‹In _ _ _›; exact kindE hh (by kernel_rfl))); (case hlz68 => ((with_reducible refine lk_skip ?hne2z68 ?hrest2z68); (case hne2z68 => decide +kernel); (with_reducible exact lk_hit))); (case hdz68 => decide +kernel); (try dsimp only)))
  refine WA_cons ?_
  ((try dsimp only); ((with_reducible refine W_local (d := ?dz69) (by assumption) ?hkz69 ?hlz69 ?qz69 ?hdz69); (case hkz69 => (have hh := In.scope ‹In _ _ _›; exact kindE hh (by kernel_rfl))); (case hlz69 => ((with_reducible refine lk_skip ?hne4z69 ?hrest4z69); (case hne4z69 => decide +kernel); (with_reducible refine lk_skip ?hne3z69 ?hrest3z69); (case hne3z69 => decide +kernel); (with_reducible refine lk_skip ?hne2z69 ?hrest2z69); (case hne2z69 => decide +kernel); (with_reducible exact lk_hit))); (case hdz69 => decide +kernel); (try dsimp only)))
  refine WA_nil ?_
  refine ⟨by simp, ?_⟩
  refine pct_pos rfl (by omega) (by omega) (by omega) fun y hy => ?_
  ((try dsimp only); (with_reducible refine WXs_cons ?_))
  ((try dsimp only); (with_reducible refine WX_If ?_))
  refine WT_value (he := by intro _ _; rfl) ?_
  refine W_Call (hplain := by intro _; rfl) okY ?_
  refine W_bi (v := .builtin "isinstance") okY hKY (by (have hh := In.scope ‹In _ _ _›; exact kindE hh (by kernel_rfl))) (b_isinst _) (by kernel_rfl) (by decide +kernel) (by decide +kernel) ?_
  refine ⟨_, rfl, keeps_builtin, ?_⟩
  refine WA_cons ?_
  ((try dsimp only); ((with_reducible refine W_local (d := ?dz73) (by assumption) ?hkz73 ?hlz73 ?qz73 ?hdz73); (case hkz73 => (have hh := In.scope ‹In _ _ _›; exact kindE hh (by kernel_rfl))); (case hlz73 => ((with_reducible refine lkp_skip ?hne4z73 ?hrest4z73); (case hne4z73 => decide +kernel); (with_reducible refine lk_skip ?hne3z73 ?hrest3z73); (case hne3z73 => decide +kernel); (with_reducible refine lk_skip ?hne2z73 ?hrest2z73); (case hne2z73 => decide +kernel); (with_reducible exact lk_hit))); (case hdz73 => decide +kernel); (try dsimp only)))
  refine WA_cons ?_
  refine W_bi (v := .type "str") okY hKY (by (have hh := In.scope ‹In _ _ _›; exact kindE hh (by kernel_rfl))) (b_str _) (by kernel_rfl) (by decide +kernel) (by decide +kernel) ?_
  refine WA_nil ?_
  refine c_isstr (t_bool ?_)
  rw [if_pos rfl]
  ((try dsimp only); (with_reducible refine WXs_cons ?_))
  ((try dsimp only); (with_reducible refine WX_Assign (hs := ?hsz76) (by assumption) ?hkz76 ?_); (case hsz76 => intro _; rfl); (case hkz76 => (have hh := In.scope ‹In _ _ _›; exact kindE hh (by kernel_rfl))))
  refine W_str s_nl ?_
  ((try dsimp only); ((with_reducible refine WXs_nil ?_); (try dsimp only)))
  ((try dsimp only); (with_reducible refine WXs_cons ?_))
  ((try dsimp only); ((with_reducible refine WX_SetAttr (hs := ?hsz79) ?_); (case hsz79 => intro _; rfl)))
  ((try dsimp only); (with_reducible refine W_BinOp ?_))
  refine W_Method (hbase := by intro _; rfl) (hfew := by intro _; rfl) (hline := by rfl) (hplain := by intro _; rfl) okY ?_
  ((try dsimp only); ((with_reducible refine W_local (d := ?dz81) (by assumption) ?hkz81 ?hlz81 ?qz81 ?hdz81); (case hkz81 => (have hh := In.scope ‹In _ _ _›; exact kindE hh (by kernel_rfl))); (case hlz81 => ((with_reducible refine lkp_skip ?hne5z81 ?hrest5z81); (case hne5z81 => decide +kernel); (with_reducible refine lkp_skip ?hne4z81 ?hrest4z81); (case hne4z81 => decide +kernel); (with_reducible refine lk_skip ?hne3z81 ?hrest3z81); (case hne3z81 => decide +kernel); (with_reducible refine lk_skip ?hne2z81 ?hrest2z81); (case hne2z81 => decide +kernel); (with_reducible exact lk_hit))); (case hdz81 => decide +kernel); (try dsimp only)))
  refine gm_str F.slot_str_count F.type_str_count ⟨keeps_builtin, ?_⟩
  refine WA_cons ?_
  ((try dsimp only); ((with_reducible refine W_local (d := ?dz82) (by assumption) ?hkz82 ?hlz82 ?qz82 ?hdz82); (case hkz82 => (have hh := In.scope ‹In _ _ _›; exact kindE hh (by kernel_rfl))); (case hlz82 => ((with_reducible exact lk_put_self))); (case hdz82 => decide +kernel); (try dsimp only)))
  refine WA_cons ?_
  ((try dsimp only); ((with_reducible refine W_int ?_); (try dsimp only)))
  refine WA_cons ?_
  ((try dsimp only); ((with_reducible refine W_local (d := ?dz84) (by assumption) ?hkz84 ?hlz84 ?qz84 ?hdz84); (case hkz84 => (have hh := In.scope ‹In _ _ _›; exact kindE hh (by kernel_rfl))); (case hlz84 => ((with_reducible refine lkp_skip ?hne6z84 ?hrest6z84); (case hne6z84 => decide +kernel); (with_reducible refine lkp_skip ?hne5z84 ?hrest5z84); (case hne5z84 => decide +kernel); (with_reducible refine lk_skip ?hne4z84 ?hrest4z84); (case hne4z84 => decide +kernel); (with_reducible refine lk_skip ?hne3z84 ?hrest3z84); (case hne3z84 => decide +kernel); (with_reducible refine lk_skip ?hne2z84 ?hrest2z84); (case hne2z84 => decide +kernel); (with_reducible exact lk_hit))); (case hdz84 => decide +kernel); (try dsimp only)))
  refine WA_nil ?_
  refine c_count4 (i := 0) fun c hc => ?_
  ((try dsimp only); ((with_reducible refine W_int ?_); (try dsimp only)))
  refine o_addi ?_
  ((try dsimp only); ((with_reducible refine W_local (d := ?dz86) (by assumption) ?hkz86 ?hlz86 ?qz86 ?hdz86); (case hkz86 => (have hh := In.scope ‹In _ _ _›; exact kindE hh (by kernel_rfl))); (case hlz86 => ((with_reducible refine lkp_skip ?hne3z86 ?hrest3z86); (case hne3z86 => decide +kernel); (with_reducible refine lkp_skip ?hne2z86 ?hrest2z86); (case hne2z86 => decide +kernel); (with_reducible exact lk_hit))); (case hdz86 => decide +kernel); (try dsimp only)))
  refine sa_exc1 okY i1 i2 (hKY ▸ kxs_lineno _) (by omega) ?_
  obtain ⟨j1, j2, j3⟩ := stp _ (.dict (updF fs3 "lineno" (.int (c + 1)))) i1 i3
  have hl4 := updF_length fs3 "lineno" (.int (c + 1))
  generalize hfs4 : updF fs3 "lineno" (.int (c + 1)) = fs4 at j1 j2 j3 hl4 ⊢
  generalize upd hp₄ d (.dict fs4) = hp₅ at j1 j2 j3 ⊢
  clear i1 i2 i3
  ((try dsimp only); (with_reducible refine WXs_cons ?_))
  ((try dsimp only); ((with_reducible refine WX_SetAttr (hs := ?hsz88) ?_); (case hsz88 => intro _; rfl)))
  ((try dsimp only); (with_reducible refine W_BinOp ?_))
  ((try dsimp only); ((with_reducible refine W_local (d := ?dz90) (by assumption) ?hkz90 ?hlz90 ?qz90 ?hdz90); (case hkz90 => (have hh := In.scope ‹In _ _ _›; exact kindE hh (by kernel_rfl))); (case hlz90 => ((with_reducible refine lkp_skip ?hne6z90 ?hrest6z90); (case hne6z90 => decide +kernel); (with_reducible refine lkp_skip ?hne5z90 ?hrest5z90); (case hne5z90 => decide +kernel); (with_reducible refine lk_skip ?hne4z90 ?hrest4z90); (case hne4z90 => decide +kernel); (with_reducible refine lk_skip ?hne3z90 ?hrest3z90); (case hne3z90 => decide +kernel); (with_reducible refine lk_skip ?hne2z90 ?hrest2z90); (case hne2z90 => decide +kernel); (with_reducible exact lk_hit))); (case hdz90 => decide +kernel); (try dsimp only)))
  refine W_Method (hbase := by intro _; rfl) (hfew := by intro _; rfl) (hline := by rfl) (hplain := by intro _; rfl) okY ?_
  ((try dsimp only); ((with_reducible refine W_local (d := ?dz91) (by assumption) ?hkz91 ?hlz91 ?qz91 ?hdz91); (case hkz91 => (have hh := In.scope ‹In _ _ _›; exact kindE hh (by kernel_rfl))); (case hlz91 => ((with_reducible refine lkp_skip ?hne5z91 ?hrest5z91); (case hne5z91 => decide +kernel); (with_reducible refine lkp_skip ?hne4z91 ?hrest4z91); (case hne4z91 => decide +kernel); (with_reducible refine lk_skip ?hne3z91 ?hrest3z91); (case hne3z91 => decide +kernel); (with_reducible refine lk_skip ?hne2z91 ?hrest2z91); (case hne2z91 => decide +kernel); (with_reducible exact lk_hit))); (case hdz91 => decide +kernel); (try dsimp only)))
  refine gm_str F.slot_str_rfind F.type_str_rfind ⟨keeps_builtin, ?_⟩
  refine WA_cons ?_
  ((try dsimp only); ((with_reducible refine W_local (d := ?dz92) (by assumption) ?hkz92 ?hlz92 ?qz92 ?hdz92); (case hkz92 => (have hh := In.scope ‹In _ _ _›; exact kindE hh (by kernel_rfl))); (case hlz92 => ((with_reducible exact lk_put_self))); (case hdz92 => decide +kernel); (try dsimp only)))
  refine WA_cons ?_
  ((try dsimp only); ((with_reducible refine W_int ?_); (try dsimp only)))
  refine WA_cons ?_
  ((try dsimp only); ((with_reducible refine W_local (d := ?dz94) (by assumption) ?hkz94 ?hlz94 ?qz94 ?hdz94); (case hkz94 => (have hh := In.scope ‹In _ _ _›; exact kindE hh (by kernel_rfl))); (case hlz94 => ((with_reducible refine lkp_skip ?hne6z94 ?hrest6z94); (case hne6z94 => decide +kernel); (with_reducible refine lkp_skip ?hne5z94 ?hrest5z94); (case hne5z94 => decide +kernel); (with_reducible refine lk_skip ?hne4z94 ?hrest4z94); (case hne4z94 => decide +kernel); (with_reducible refine lk_skip ?hne3z94 ?hrest3z94); (case hne3z94 => decide +kernel); (with_reducible refine lk_skip ?hne2z94 ?hrest2z94); (case hne2z94 => decide +kernel); (with_reducible exact lk_hit))); (case hdz94 => decide +kernel); (try dsimp only)))
  refine WA_nil ?_
  refine c_rfind4 (i := 0) (by decide) fun r r1 r2 => ?_
  refine o_subi ?_
  ((try dsimp only); ((with_reducible refine W_local (d := ?dz95) (by assumption) ?hkz95 ?hlz95 ?qz95 ?hdz95); (case hkz95 => (have hh := In.scope ‹In _ _ _›; exact kindE hh (by kernel_rfl))); (case hlz95 => ((with_reducible refine lkp_skip ?hne3z95 ?hrest3z95); (case hne3z95 => decide +kernel); (with_reducible refine lkp_skip ?hne2z95 ?hrest2z95); (case hne2z95 => decide +kernel); (with_reducible exact lk_hit))); (case hdz95 => decide +kernel); (try dsimp only)))
  refine sa_exc1 okY j1 j2 (hKY ▸ kxs_colno _) (by omega) ?_
  obtain ⟨k1', k2', k3'⟩ := stp _ (.dict (updF fs4 "colno" (.int (p - r)))) j1 j3
  generalize upd hp₅ d (.dict (updF fs4 "colno" (.int (p - r)))) = hp₆ at k1' k2' k3' ⊢
  clear j1 j2 j3
  ((try dsimp only); (with_reducible refine WXs_cons ?_))
  ((try dsimp only); (with_reducible refine WX_If ?_))
  ((try dsimp only); ((with_reducible refine WT_Compare (hm := ?hmz98) ?_); (case hmz98 => with_unfolding_all rfl)))
  ((try dsimp only); ((with_reducible refine W_local (d := ?dz99) (by assumption) ?hkz99 ?hlz99 ?qz99 ?hdz99); (case hkz99 => (have hh := In.scope ‹In _ _ _›; exact kindE hh (by kernel_rfl))); (case hlz99 => ((with_reducible exact lk_put_self))); (case hdz99 => decide +kernel); (try dsimp only)))
  ((try dsimp only); ((with_reducible refine W_local (d := ?dz100) (by assumption) ?hkz100 ?hlz100 ?qz100 ?hdz100); (case hkz100 => (have hh := In.scope ‹In _ _ _›; exact kindE hh (by kernel_rfl))); (case hlz100 => ((with_reducible refine lkp_skip ?hne5z100 ?hrest5z100); (case hne5z100 => decide +kernel); (with_reducible refine lkp_skip ?hne4z100 ?hrest4z100); (case hne4z100 => decide +kernel); (with_reducible refine lk_skip ?hne3z100 ?hrest3z100); (case hne3z100 => decide +kernel); (with_reducible refine lk_skip ?hne2z100 ?hrest2z100); (case hne2z100 => decide +kernel); (with_reducible exact lk_hit))); (case hdz100 => decide +kernel); (try dsimp only)))
  refine o_ins fun b => t_bool ?_
  have ksup : KSup Y 38 CP "self" :=
    { func := by rw [hE]; rfl
      fd := by rw [hKY]; exact ⟨_, _, _, _, _, rfl, rfl, rfl⟩
      code := by
        rw [hKY, hE, hI.prog, hP]
        exact ⟨37, _, _, _, _, _, _, by kernel_rfl, rfl, rfl, by kernel_rfl⟩
      top := by rw [hI.prog, hP]; kernel_rfl
      super := by (have hh := In.scope ‹In _ _ _›; exact kindE hh (by kernel_rfl))
      cls := by (have hh := In.scope ‹In _ _ _›; exact kindE hh (by kernel_rfl))
      cell := by
        rw [hKY, hE]
        exact ⟨25, _, _, _, by kernel_rfl, rfl⟩
      glob := by rw [hKY]; exact b_super _
      boot := by kernel_rfl
      sub := by rw [hKY]; kernel_rfl
      exc := by rw [hKY]; kernel_rfl
      opaq := by rw [hKY]; kernel_rfl
      selfLoc := by (have hh := In.scope ‹In _ _ _›; exact kindE hh (by kernel_rfl)) }
  cases b
  · rw [if_neg (by decide)]
    ((try dsimp only); ((with_reducible refine WXs_nil ?_); (try dsimp only)))
    ((try dsimp only); ((with_reducible refine WXs_nil ?_); (try dsimp only)))
    refine WAt_last (WAt_super (a := a) (dy := .str y) PySem.F.excBase_Exception okY hCY rfl ksup ?hs k1' ?hm (by (have hh := In.scope ‹In _ _ _›; exact kindE hh (by kernel_rfl))) (by decide +kernel) (by rfl) (fun _ => by rfl) ?_)
    case hs => ((with_reducible refine lkp_skip ?hne3z107 ?hrest3z107); (case hne3z107 => decide +kernel); (with_reducible refine lkp_skip ?hne2z107 ?hrest2z107); (case hne2z107 => decide +kernel); (with_reducible exact lk_hit))
    case hm => ((with_reducible refine lkp_skip ?hne2z108 ?hrest2z108); (case hne2z108 => decide +kernel); (with_reducible exact lk_put_self))
    exact hQ1 _ _ ⟨rfl, q a d _ ha k1' k3'⟩
  · rw [if_pos rfl]
    ((try dsimp only); (with_reducible refine WXs_cons ?_))
    ((try dsimp only); (with_reducible refine WX_Assign (hs := ?hsz110) (by assumption) ?hkz110 ?_); (case hsz110 => intro _; rfl); (case hkz110 => (have hh := In.scope ‹In _ _ _›; exact kindE hh (by kernel_rfl))))
    ((try dsimp only); (with_reducible refine W_BinOp ?_))
    refine W_str rfl ?_
    refine W_Tuple ?_
    refine WA_cons ?_
    ((try dsimp only); ((with_reducible refine W_local (d := ?dz112) (by assumption) ?hkz112 ?hlz112 ?qz112 ?hdz112); (case hkz112 => (have hh := In.scope ‹In _ _ _›; exact kindE hh (by kernel_rfl))); (case hlz112 => ((with_reducible refine lkp_skip ?hne2z112 ?hrest2z112); (case hne2z112 => decide +kernel); (with_reducible exact lk_put_self))); (case hdz112 => decide +kernel); (try dsimp only)))
    refine WA_cons ?_
    refine W_Attr ?_
    ((try dsimp only); ((with_reducible refine W_local (d := ?dz113) (by assumption) ?hkz113 ?hlz113 ?qz113 ?hdz113); (case hkz113 => (have hh := In.scope ‹In _ _ _›; exact kindE hh (by kernel_rfl))); (case hlz113 => ((with_reducible refine lkp_skip ?hne3z113 ?hrest3z113); (case hne3z113 => decide +kernel); (with_reducible refine lkp_skip ?hne2z113 ?hrest2z113); (case hne2z113 => decide +kernel); (with_reducible exact lk_hit))); (case hdz113 => decide +kernel); (try dsimp only)))
    refine getf_exc okY k1' k2' (hKY ▸ kxg_lineno _) ((lk_updF_ne _ _ (by decide +kernel)).trans (hfs4 ▸ lk_updF_self _ _ _)) (fun _ e => by cases e) ?_
    refine WA_cons ?_
    refine W_Attr ?_
    ((try dsimp only); ((with_reducible refine W_local (d := ?dz114) (by assumption) ?hkz114 ?hlz114 ?qz114 ?hdz114); (case hkz114 => (have hh := In.scope ‹In _ _ _›; exact kindE hh (by kernel_rfl))); (case hlz114 => ((with_reducible refine lkp_skip ?hne3z114 ?hrest3z114); (case hne3z114 => decide +kernel); (with_reducible refine lkp_skip ?hne2z114 ?hrest2z114); (case hne2z114 => decide +kernel); (with_reducible exact lk_hit))); (case hdz114 => decide +kernel); (try dsimp only)))
    refine getf_exc okY k1' k2' (hKY ▸ kxg_colno _) (lk_updF_self _ _ _) (fun _ e => by cases e) ?_
    refine WA_nil ?_
    refine ⟨by simp, ?_⟩
    refine pct_line rfl (by omega) (by omega) (by omega) (by omega) (by omega) fun z => ?_
    ((try dsimp only); ((with_reducible refine WXs_nil ?_); (try dsimp only)))
    ((try dsimp only); ((with_reducible refine WXs_nil ?_); (try dsimp only)))
    refine WAt_last (WAt_super PySem.F.excBase_Exception okY hCY rfl ksup (by ((with_reducible refine lkp_skip ?hne4z117 ?hrest4z117); (case hne4z117 => decide +kernel); (with_reducible refine lkp_skip ?hne3z117 ?hrest3z117); (case hne3z117 => decide +kernel); (with_reducible refine lkp_skip ?hne2z117 ?hrest2z117); (case hne2z117 => decide +kernel); (with_reducible exact lk_hit))) k1' (by ((with_reducible exact lk_put_self))) (by (have hh := In.scope ‹In _ _ _›; exact kindE hh (by kernel_rfl))) (by decide +kernel) (by rfl) (fun _ => by rfl) ?_)
    exact hQ1 _ _ ⟨rfl, q a d _ ha k1' k3'⟩
end Mine
namespace Mine
open PySem PySem.W PySem.Calls PySem.Spec PyProof.Rows
noncomputable def tokFs (l : List Nat) (i : Nat) (d : V) : List (Str × V) := [("istext", .bool true), ("string", .str l), ("decoded_string", .str l), ("index", .int i), ("next", d)]
theorem tok_index (l : List Nat) (i : Nat) (d : V) : lk (tokFs l i d) "index" = some (.int i) := by kernel_rfl
theorem tok_next (l : List Nat) (i : Nat) (d : V) : lk (tokFs l i d) "next" = some d := by kernel_rfl
theorem tok_str (l : List Nat) (i : Nat) (d : V) : lk (tokFs l i d) "string" = some (.str l) := by kernel_rfl
theorem tok_dec (l : List Nat) (i : Nat) (d : V) : lk (tokFs l i d) "decoded_string" = some (.str l) := by kernel_rfl
theorem up_index (l : List Nat) (i j : Nat) (d : V) : updF (tokFs l i d) "index" (.int j) = tokFs l j d := by kernel_rfl
theorem up_next (l : List Nat) (i : Nat) (d e : V) : updF (tokFs l i d) "next" e = tokFs l i e := by kernel_rfl
theorem s_bs : (Str.ofString "\\").cps.toList = [92] := by decide +kernel
theorem match_ierr {X : Cx} : Match X (.type "IndexError") (.type "IndexError") true := match_builtin (by rw [isSubtype_type]; kernel_rfl) (by kernel_rfl) (by rw [isSubtype_type]; kernel_rfl)
structure Tk (hp : Addr → Option HO) (a dx : Addr) (l : List Nat) (i : Nat) (d : V) : Prop where
  inst : hp a = some (.inst CT dx)
  dict : hp dx = some (.dict (tokFs l i d))
theorem c_next {pp : Params} {X : Cx} {n : Nat} {σ : S} {E : Value → S → Prop} {a dx : Addr} {l : List Nat} {i : Nat} {d : V} {Q : V → S → Prop} (ok : Ok X (n + 2)) (hK : X.K = KK pp) (hP : X.prog = PySem.Challenge.rw_ij0062_06.row.prog) (hc : X.ctx = none) (tk : Tk σ.hp a dx l i d) (hl : l.length ≤ 1000) (hi : i ≤ 1000)
    (q : match l[i]? with
      | none => Q .none { σ with hp := upd σ.hp dx (.dict (tokFs l i .none)) }
      | some c => if c = 92 then (match l[i + 1]? with
          | none => E (.ref CP) σ
          | some c2 => Q .none { σ with hp := upd σ.hp dx (.dict (tokFs l (i + 2) (.str [92, c2]))) })
        else Q .none { σ with hp := upd σ.hp dx (.dict (tokFs l (i + 1) (.str [c]))) }) : Call X (.ref 65) [.ref a] σ Q E := by
  refine Call.fn' (names := ["self"]) (loc0 := [("self", .ref a)]) (n := n + 1) ok hK (f_next _) (bind1 fun v _ => by kernel_rfl) (by kernel_rfl) (by decide +kernel) rfl rfl fun Y okY hI => ?_
  have hKY : Y.K = KK pp := hI.K.trans hK
  have hcY : Y.ctx = none := hI.ctx.trans hc
  obtain ⟨t1, t2⟩ := tk
  have had : a ≠ dx := fun e => by rw [e, t2] at t1; cases t1
  conv in bodyAt _ _ => whnf
  refine W.hide fun Q1 E1 hQ1 hE1 => ?_
  ((try dsimp only); (with_reducible refine WXs_cons ?_))
  ((try dsimp only); (with_reducible refine WX_Assign (hs := ?hsz227) (by assumption) ?hkz227 ?_); (case hsz227 => intro _; rfl); (case hkz227 => (have hh := In.scope ‹In _ _ _›; exact kindE hh (by kernel_rfl))))
  refine W_field (by assumption) ?_ (by decide +kernel) (by ((with_reducible exact lk_hit))) t1 t2 (hKY ▸ kg_index _) (tok_index _ _ _) (fun _ e => by cases e) ?_
  · (have hh := In.scope ‹In _ _ _›; exact kindE hh (by kernel_rfl))
  dsimp only
  ((try dsimp only); (with_reducible refine WXs_cons ?_))
  refine WX_Try (n := n + 1) (c := .type "IndexError") okY hI.env (ht_bi okY hKY (by (have hh := In.scope ‹In _ _ _›; exact kindE hh (by kernel_rfl))) (b_ierr _) (by kernel_rfl) (by decide +kernel) (by decide +kernel)) ?_
  ((try dsimp only); (with_reducible refine WXs_cons ?_))
  ((try dsimp only); (with_reducible refine WX_Assign (hs := ?hsz233) (by assumption) ?hkz233 ?_); (case hsz233 => intro _; rfl); (case hkz233 => (have hh := In.scope ‹In _ _ _›; exact kindE hh (by kernel_rfl))))
  ((try dsimp only); (with_reducible refine W_Sub ?_))
  refine W_field (by assumption) ?_ (by decide +kernel) (by ((with_reducible refine lkp_skip ?hne2z235 ?hrest2z235); (case hne2z235 => decide +kernel); (with_reducible exact lk_hit))) t1 t2 (hKY ▸ kg_dec _) (tok_dec _ _ _) (fun _ e => by cases e) ?_
  · (have hh := In.scope ‹In _ _ _›; exact kindE hh (by kernel_rfl))
  ((try dsimp only); ((with_reducible refine W_local (d := ?dz237) (by assumption) ?hkz237 ?hlz237 ?qz237 ?hdz237); (case hkz237 => (have hh := In.scope ‹In _ _ _›; exact kindE hh (by kernel_rfl))); (case hlz237 => ((with_reducible exact lk_put_self))); (case hdz237 => decide +kernel); (try dsimp only)))
  refine s_strItem (hs := by intro _ _ _ _; with_unfolding_all rfl) (ht := by intro _ _ _; with_unfolding_all rfl) okY hcY (by omega) (by omega) ?_
  cases hli : l[i]? with
  | none =>
    rw [hli] at q
    dsimp only at q ⊢
    refine ⟨true, match_ierr, ?_⟩
    rw [if_pos rfl]
    intro e okm
    ((try dsimp only); (with_reducible refine WXs_cons ?_))
    ((try dsimp only); ((with_reducible refine WX_SetAttr (hs := ?hsz239) ?_); (case hsz239 => intro _; rfl)))
    ((try dsimp only); ((with_reducible refine W_none ?_); (try dsimp only)))
    ((try dsimp only); ((with_reducible refine W_local (d := ?dz241) (by assumption) ?hkz241 ?hlz241 ?qz241 ?hdz241); (case hkz241 => (have hh := In.scope ‹In _ _ _›; exact kindE hh (by kernel_rfl))); (case hlz241 => ((with_reducible refine lkp_skip ?hne2z241 ?hrest2z241); (case hne2z241 => decide +kernel); (with_reducible exact lk_hit))); (case hdz241 => decide +kernel); (try dsimp only)))
    refine sa_inst okm t1 t2 (hKY ▸ ks_next _) (by show 5 ≤ 90; decide) ?_
    rw [up_next]
    ((try dsimp only); (with_reducible refine WXs_cons ?_))
    ((try dsimp only); ((with_reducible refine WX_Return0 ?_); (try dsimp only)))
    exact hQ1 _ _ q
  | some c =>
    rw [hli] at q
    dsimp only at q ⊢
    ((try dsimp only); ((with_reducible refine WXs_nil ?_); (try dsimp only)))
    ((try dsimp only); (with_reducible refine WXs_cons ?_))
    ((try dsimp only); (with_reducible refine WX_If ?_))
    ((try dsimp only); ((with_reducible refine WT_Compare (hm := ?hmz247) ?_); (case hmz247 => with_unfolding_all rfl)))
    ((try dsimp only); ((with_reducible refine W_local (d := ?dz248) (by assumption) ?hkz248 ?hlz248 ?qz248 ?hdz248); (case hkz248 => (have hh := In.scope ‹In _ _ _›; exact kindE hh (by kernel_rfl))); (case hlz248 => ((with_reducible exact lk_put_self))); (case hdz248 => decide +kernel); (try dsimp only)))
    refine W_str s_bs ?_
    refine o_eqs (t_bool ?_)
    by_cases h92 : c = 92
    · subst h92
      rw [if_pos rfl] at q
      rw [if_pos (show ([92] == [92]) = true from rfl)]
      ((try dsimp only); (with_reducible refine WXs_cons ?_))
      ((try dsimp only); (with_reducible refine WX_Aug (d := ?dz250) (by assumption) ?hkz250 ?hlz250 ?_); (case hkz250 => (have hh := In.scope ‹In _ _ _›; exact kindE hh (by kernel_rfl))); (case hlz250 => ((with_reducible refine lkp_skip ?hne2z250 ?hrest2z250); (case hne2z250 => decide +kernel); (with_reducible exact lk_put_self))))
      ((try dsimp only); ((with_reducible refine W_int ?_); (try dsimp only)))
      refine o_iaddi ?_
      ((try dsimp only); (with_reducible refine WXs_cons ?_))
      refine WX_Try (n := n + 1) (c := .type "IndexError") okY hI.env (ht_bi okY hKY (by (have hh := In.scope ‹In _ _ _›; exact kindE hh (by kernel_rfl))) (b_ierr _) (by kernel_rfl) (by decide +kernel) (by decide +kernel)) ?_
      ((try dsimp only); (with_reducible refine WXs_cons ?_))
      ((try dsimp only); (with_reducible refine WX_Aug (d := ?dz255) (by assumption) ?hkz255 ?hlz255 ?_); (case hkz255 => (have hh := In.scope ‹In _ _ _›; exact kindE hh (by kernel_rfl))); (case hlz255 => ((with_reducible refine lkp_skip ?hne2z255 ?hrest2z255); (case hne2z255 => decide +kernel); (with_reducible exact lk_put_self))))
      ((try dsimp only); (with_reducible refine W_Sub ?_))
      refine W_field (by assumption) ?_ (by decide +kernel) (by ((with_reducible refine lkp_skip ?hne4z257 ?hrest4z257); (case hne4z257 => decide +kernel); (with_reducible refine lkp_skip ?hne3z257 ?hrest3z257); (case hne3z257 => decide +kernel); (with_reducible refine lkp_skip ?hne2z257 ?hrest2z257); (case hne2z257 => decide +kernel); (with_reducible exact lk_hit))) t1 t2 (hKY ▸ kg_dec _) (tok_dec _ _ _) (fun _ e => by cases e) ?_
      · (have hh := In.scope ‹In _ _ _›; exact kindE hh (by kernel_rfl))
      ((try dsimp only); ((with_reducible refine W_local (d := ?dz259) (by assumption) ?hkz259 ?hlz259 ?qz259 ?hdz259); (case hkz259 => (have hh := In.scope ‹In _ _ _›; exact kindE hh (by kernel_rfl))); (case hlz259 => ((with_reducible exact lk_put_self))); (case hdz259 => decide +kernel); (try dsimp only)))
      refine s_strItem (hs := by intro _ _ _ _; with_unfolding_all rfl) (ht := by intro _ _ _; with_unfolding_all rfl) (k := i + 1) okY hcY (by omega) (by omega) ?_
      cases hli2 : l[i + 1]? with
      | none =>
        rw [hli2] at q
        dsimp only at q ⊢
        refine ⟨true, match_ierr, ?_⟩
        rw [if_pos rfl]
        intro e okm
        ((try dsimp only); (with_reducible refine WXs_cons ?_))
        refine WX_RaiseFrom okm (fun p hp => by cases hp; rfl) ?_
        refine W_Call (hplain := by intro _; rfl) okm ?_
        refine W_gl okm hKY (by (have hh := In.scope ‹In _ _ _›; exact kindE hh (by kernel_rfl))) (g_err _) (by decide +kernel) ?_
        (try dsimp only)
        refine ⟨_, rfl, keeps_fn hKY (by kernel_rfl), ?_⟩
        refine WA_cons ?_
        refine W_str rfl ?_
        refine WA_cons ?_
        refine W_field (by assumption) ?_ (by decide +kernel) (by ((with_reducible refine lkp_skip ?hne4z262 ?hrest4z262); (case hne4z262 => decide +kernel); (with_reducible refine lkp_skip ?hne3z262 ?hrest3z262); (case hne3z262 => decide +kernel); (with_reducible refine lkp_skip ?hne2z262 ?hrest2z262); (case hne2z262 => decide +kernel); (with_reducible exact lk_hit))) t1 t2 (hKY ▸ kg_string _) (tok_str _ _ _) (fun _ e => by cases e) ?_
        · (have hh := In.scope ‹In _ _ _›; exact kindE hh (by kernel_rfl))
        refine WA_cons ?_
        ((try dsimp only); (with_reducible refine W_BinOp ?_))
        refine W_Call (hplain := by intro _; rfl) okm ?_
        refine W_bi (v := .builtin "len") okm hKY (by (have hh := In.scope ‹In _ _ _›; exact kindE hh (by kernel_rfl))) (b_len _) (by kernel_rfl) (by decide +kernel) (by decide +kernel) ?_
        refine ⟨_, rfl, keeps_builtin, ?_⟩
        refine WA_cons ?_
        refine W_field (by assumption) ?_ (by decide +kernel) (by ((with_reducible refine lkp_skip ?hne4z266 ?hrest4z266); (case hne4z266 => decide +kernel); (with_reducible refine lkp_skip ?hne3z266 ?hrest3z266); (case hne3z266 => decide +kernel); (with_reducible refine lkp_skip ?hne2z266 ?hrest2z266); (case hne2z266 => decide +kernel); (with_reducible exact lk_hit))) t1 t2 (hKY ▸ kg_string _) (tok_str _ _ _) (fun _ e => by cases e) ?_
        · (have hh := In.scope ‹In _ _ _›; exact kindE hh (by kernel_rfl))
        refine WA_nil ?_
        refine c_lens (by omega) ?_
        ((try dsimp only); ((with_reducible refine W_int ?_); (try dsimp only)))
        refine o_subi ?_
        refine WA_nil ?_
        have hlen : i < l.length := (List.getElem?_eq_some_iff.mp hli).1
        rw [show ((l.length : Int) - 1) = ((l.length - 1 : Nat) : Int) from by omega]
        refine c_err (n := n) okm hKY (hI.prog.trans hP) (by rw [show (Str.ofString "bad escape (end of pattern)").cps.toList.length = 27 from by decide +kernel]; omega) hl (by omega) fun ea de hp' h1 h2 h3 => ?_
        exact ⟨ea, CP, some de, σ.hp, rfl, h2, hKY ▸ kx_exc _, h3, h1, hE1 _ _ q⟩
      | some c2 =>
        rw [hli2] at q
        dsimp only at q ⊢
        refine o_iadds (by simp) ?_
        ((try dsimp only); ((with_reducible refine WXs_nil ?_); (try dsimp only)))
        ((try dsimp only); ((with_reducible refine WXs_nil ?_); (try dsimp only)))
        ((try dsimp only); (with_reducible refine WXs_cons ?_))
        ((try dsimp only); ((with_reducible refine WX_SetAttr (hs := ?hsz272) ?_); (case hsz272 => intro _; rfl)))
        ((try dsimp only); (with_reducible refine W_BinOp ?_))
        ((try dsimp only); ((with_reducible refine W_local (d := ?dz274) (by assumption) ?hkz274 ?hlz274 ?qz274 ?hdz274); (case hkz274 => (have hh := In.scope ‹In _ _ _›; exact kindE hh (by kernel_rfl))); (case hlz274 => ((with_reducible refine lkp_skip ?hne2z274 ?hrest2z274); (case hne2z274 => decide +kernel); (with_reducible exact lk_put_self))); (case hdz274 => decide +kernel); (try dsimp only)))
        ((try dsimp only); ((with_reducible refine W_int ?_); (try dsimp only)))
        refine o_addi ?_
        ((try dsimp only); ((with_reducible refine W_local (d := ?dz276) (by assumption) ?hkz276 ?hlz276 ?qz276 ?hdz276); (case hkz276 => (have hh := In.scope ‹In _ _ _›; exact kindE hh (by kernel_rfl))); (case hlz276 => ((with_reducible refine lkp_skip ?hne5z276 ?hrest5z276); (case hne5z276 => decide +kernel); (with_reducible refine lkp_skip ?hne4z276 ?hrest4z276); (case hne4z276 => decide +kernel); (with_reducible refine lkp_skip ?hne3z276 ?hrest3z276); (case hne3z276 => decide +kernel); (with_reducible refine lkp_skip ?hne2z276 ?hrest2z276); (case hne2z276 => decide +kernel); (with_reducible exact lk_hit))); (case hdz276 => decide +kernel); (try dsimp only)))
        refine sa_inst okY t1 t2 (hKY ▸ ks_index _) (by show 5 ≤ 90; decide) ?_
        rw [show ((i : Int) + 1 + 1) = ((i + 2 : Nat) : Int) from rfl, up_index]
        ((try dsimp only); (with_reducible refine WXs_cons ?_))
        ((try dsimp only); ((with_reducible refine WX_SetAttr (hs := ?hsz278) ?_); (case hsz278 => intro _; rfl)))
        ((try dsimp only); ((with_reducible refine W_local (d := ?dz279) (by assumption) ?hkz279 ?hlz279 ?qz279 ?hdz279); (case hkz279 => (have hh := In.scope ‹In _ _ _›; exact kindE hh (by kernel_rfl))); (case hlz279 => ((with_reducible exact lk_put_self))); (case hdz279 => decide +kernel); (try dsimp only)))
        ((try dsimp only); ((with_reducible refine W_local (d := ?dz280) (by assumption) ?hkz280 ?hlz280 ?qz280 ?hdz280); (case hkz280 => (have hh := In.scope ‹In _ _ _›; exact kindE hh (by kernel_rfl))); (case hlz280 => ((with_reducible refine lkp_skip ?hne5z280 ?hrest5z280); (case hne5z280 => decide +kernel); (with_reducible refine lkp_skip ?hne4z280 ?hrest4z280); (case hne4z280 => decide +kernel); (with_reducible refine lkp_skip ?hne3z280 ?hrest3z280); (case hne3z280 => decide +kernel); (with_reducible refine lkp_skip ?hne2z280 ?hrest2z280); (case hne2z280 => decide +kernel); (with_reducible exact lk_hit))); (case hdz280 => decide +kernel); (try dsimp only)))
        refine sa_inst okY (C := CT) (dx := dx) (fs := tokFs l (i + 2) d) ?_ upd_self (hKY ▸ ks_next _) (by show 5 ≤ 90; decide) ?_
        · show upd σ.hp dx _ a = _
          rw [upd_ne had]; exact t1
        rw [up_next, upd_upd]
        ((try dsimp only); ((with_reducible refine WXs_nil ?_); (try dsimp only)))
        exact hQ1 _ _ q
    · rw [if_neg h92] at q
      have : ([c] == [92]) = false := by simp [h92]
      rw [this, if_neg (by decide)]
      ((try dsimp only); ((with_reducible refine WXs_nil ?_); (try dsimp only)))
      ((try dsimp only); (with_reducible refine WXs_cons ?_))
      ((try dsimp only); ((with_reducible refine WX_SetAttr (hs := ?hsz284) ?_); (case hsz284 => intro _; rfl)))
      ((try dsimp only); (with_reducible refine W_BinOp ?_))
      ((try dsimp only); ((with_reducible refine W_local (d := ?dz286) (by assumption) ?hkz286 ?hlz286 ?qz286 ?hdz286); (case hkz286 => (have hh := In.scope ‹In _ _ _›; exact kindE hh (by kernel_rfl))); (case hlz286 => ((with_reducible refine lkp_skip ?hne2z286 ?hrest2z286); (case hne2z286 => decide +kernel); (with_reducible exact lk_put_self))); (case hdz286 => decide +kernel); (try dsimp only)))
      ((try dsimp only); ((with_reducible refine W_int ?_); (try dsimp only)))
      refine o_addi ?_
      ((try dsimp only); ((with_reducible refine W_local (d := ?dz288) (by assumption) ?hkz288 ?hlz288 ?qz288 ?hdz288); (case hkz288 => (have hh := In.scope ‹In _ _ _›; exact kindE hh (by kernel_rfl))); (case hlz288 => ((with_reducible refine lkp_skip ?hne3z288 ?hrest3z288); (case hne3z288 => decide +kernel); (with_reducible refine lkp_skip ?hne2z288 ?hrest2z288); (case hne2z288 => decide +kernel); (with_reducible exact lk_hit))); (case hdz288 => decide +kernel); (try dsimp only)))
      refine sa_inst okY t1 t2 (hKY ▸ ks_index _) (by show 5 ≤ 90; decide) ?_
      rw [show ((i : Int) + 1) = ((i + 1 : Nat) : Int) from rfl, up_index]
      ((try dsimp only); (with_reducible refine WXs_cons ?_))
      ((try dsimp only); ((with_reducible refine WX_SetAttr (hs := ?hsz290) ?_); (case hsz290 => intro _; rfl)))
      ((try dsimp only); ((with_reducible refine W_local (d := ?dz291) (by assumption) ?hkz291 ?hlz291 ?qz291 ?hdz291); (case hkz291 => (have hh := In.scope ‹In _ _ _›; exact kindE hh (by kernel_rfl))); (case hlz291 => ((with_reducible exact lk_put_self))); (case hdz291 => decide +kernel); (try dsimp only)))
      ((try dsimp only); ((with_reducible refine W_local (d := ?dz292) (by assumption) ?hkz292 ?hlz292 ?qz292 ?hdz292); (case hkz292 => (have hh := In.scope ‹In _ _ _›; exact kindE hh (by kernel_rfl))); (case hlz292 => ((with_reducible refine lkp_skip ?hne3z292 ?hrest3z292); (case hne3z292 => decide +kernel); (with_reducible refine lkp_skip ?hne2z292 ?hrest2z292); (case hne2z292 => decide +kernel); (with_reducible exact lk_hit))); (case hdz292 => decide +kernel); (try dsimp only)))
      refine sa_inst okY (C := CT) (dx := dx) (fs := tokFs l (i + 1) d) ?_ upd_self (hKY ▸ ks_next _) (by show 5 ≤ 90; decide) ?_
      · show upd σ.hp dx _ a = _
        rw [upd_ne had]; exact t1
      rw [up_next, upd_upd]
      ((try dsimp only); ((with_reducible refine WXs_nil ?_); (try dsimp only)))
      exact hQ1 _ _ q
end Mine
namespace Mine
open PySem PySem.W PySem.Calls PySem.Spec PyProof.Rows
noncomputable def sg (l : List Nat) (i : Nat) : Option (Nat × V) := match l[i]? with
  | none => some (i, .none)
  | some c => if c = 92 then (match l[i + 1]? with
      | none => none
      | some c2 => some (i + 2, .str [92, c2]))
    else some (i + 1, .str [c])
theorem c_next' {pp : Params} {X : Cx} {n : Nat} {σ : S} {E : Value → S → Prop} {a dx : Addr} {l : List Nat} {i : Nat} {d : V} {Q : V → S → Prop} (ok : Ok X (n + 2)) (hK : X.K = KK pp) (hP : X.prog = PySem.Challenge.rw_ij0062_06.row.prog) (hc : X.ctx = none) (tk : Tk σ.hp a dx l i d) (hl : l.length ≤ 1000) (hi : i ≤ 1000)
    (q : match sg l i with
      | none => E (.ref CP) σ
      | some (j, e) => Q .none { σ with hp := upd σ.hp dx (.dict (tokFs l j e)) }) : Call X (.ref 65) [.ref a] σ Q E := by
  refine c_next ok hK hP hc tk hl hi ?_
  unfold sg at q
  cases h : l[i]? with
  | none => rw [h] at q; exact q
  | some c =>
    rw [h] at q
    dsimp only at q ⊢
    split
    · rename_i hc
      rw [if_pos hc] at q
      cases h2 : l[i + 1]? with
      | none => rw [h2] at q; exact q
      | some c2 => rw [h2] at q; exact q
    · rename_i hc
      rw [if_neg hc] at q
      exact q
theorem Tk.upd {hp : Addr → Option HO} {a dx : Addr} {l : List Nat} {i : Nat} {d : V} (t : Tk hp a dx l i d) (j : Nat) (e : V) : Tk (Mine.upd hp dx (.dict (tokFs l j e))) a dx l j e := by
  obtain ⟨t1, t2⟩ := t
  have had : a ≠ dx := fun e => by rw [e, t2] at t1; cases t1
  exact ⟨by rw [upd_ne had]; exact t1, upd_self⟩
theorem c_get {pp : Params} {X : Cx} {n : Nat} {σ : S} {E : Value → S → Prop} {a dx : Addr} {l : List Nat} {i : Nat} {d : V} {Q : V → S → Prop} (ok : Ok X (n + 3)) (hK : X.K = KK pp) (hP : X.prog = PySem.Challenge.rw_ij0062_06.row.prog) (hc : X.ctx = none) (tk : Tk σ.hp a dx l i d) (hd : ∀ w, d ≠ .lit w) (hl : l.length ≤ 1000) (hi : i ≤ 1000)
    (q : match sg l i with
      | none => E (.ref CP) σ
      | some (j, e) => Q d { σ with hp := upd σ.hp dx (.dict (tokFs l j e)) }) : Call X (.ref 79) [.ref a] σ Q E := by
  refine Call.fn' (names := ["self"]) (loc0 := [("self", .ref a)]) (n := n + 2) ok hK (f_get _) (bind1 fun v _ => by kernel_rfl) (by kernel_rfl) (by decide +kernel) rfl rfl fun Y okY hI => ?_
  have hKY : Y.K = KK pp := hI.K.trans hK
  have hcY : Y.ctx = none := hI.ctx.trans hc
  have hPY := hI.prog.trans hP
  have t1 := tk.inst
  have t2 := tk.dict
  conv in bodyAt _ _ => whnf
  ((try dsimp only); (with_reducible refine WXs_cons ?_))
  ((try dsimp only); (with_reducible refine WX_Assign (hs := ?hsz2) (by assumption) ?hkz2 ?_); (case hsz2 => intro _; rfl); (case hkz2 => (have hh := In.scope ‹In _ _ _›; exact kindE hh (by kernel_rfl))))
  refine W_field (by assumption) ?_ (by decide +kernel) (by ((with_reducible exact lk_hit))) t1 t2 (hKY ▸ kg_next _) (tok_next _ _ _) hd ?_
  · (have hh := In.scope ‹In _ _ _›; exact kindE hh (by kernel_rfl))
  ((try dsimp only); (with_reducible refine WXs_cons ?_))
  refine WX_Expr (hs := by intro _; rfl) okY ?_
  refine W_Method (hbase := by intro _; rfl) (hfew := by intro _; rfl) (hline := by rfl) (hplain := by intro _; rfl) okY ?_
  ((try dsimp only); ((with_reducible refine W_local (d := ?dz6) (by assumption) ?hkz6 ?hlz6 ?qz6 ?hdz6); (case hkz6 => (have hh := In.scope ‹In _ _ _›; exact kindE hh (by kernel_rfl))); (case hlz6 => ((with_reducible refine lkp_skip ?hne2z6 ?hrest2z6); (case hne2z6 => decide +kernel); (with_reducible exact lk_hit))); (case hdz6 => decide +kernel); (try dsimp only)))
  refine getm_inst okY t1 t2 (hKY ▸ km_next _) (by kernel_rfl) ⟨keeps_fn hKY (by kernel_rfl), ?_⟩
  refine WA_nil ?_
  refine c_next' (n := n) okY hKY hPY hcY tk hl hi ?_
  cases h : sg l i with
  | none => rw [h] at q; exact q
  | some je =>
    obtain ⟨j, e⟩ := je
    rw [h] at q
    dsimp only at q ⊢
    ((try dsimp only); (with_reducible refine WXs_cons ?_))
    ((try dsimp only); (with_reducible refine WX_Return ?_))
    ((try dsimp only); ((with_reducible refine W_local (d := ?dz9) (by assumption) ?hkz9 ?hlz9 ?qz9 ?hdz9); (case hkz9 => (have hh := In.scope ‹In _ _ _›; exact kindE hh (by kernel_rfl))); (case hlz9 => ((with_reducible exact lk_put_self))); (case hdz9 => decide +kernel); (try dsimp only)))
    exact q
theorem c_seek {pp : Params} {X : Cx} {n : Nat} {σ : S} {E : Value → S → Prop} {a dx : Addr} {l : List Nat} {i k : Nat} {d : V} {Q : V → S → Prop} (ok : Ok X (n + 3)) (hK : X.K = KK pp) (hP : X.prog = PySem.Challenge.rw_ij0062_06.row.prog) (hc : X.ctx = none) (tk : Tk σ.hp a dx l i d) (hl : l.length ≤ 1000) (hk : k ≤ 1000)
    (q : match sg l k with
      | none => E (.ref CP) { σ with hp := upd σ.hp dx (.dict (tokFs l k d)) }
      | some (j, e) => Q .none { σ with hp := upd σ.hp dx (.dict (tokFs l j e)) }) : Call X (.ref 115) [.ref a, .int k] σ Q E := by
  refine Call.fn' (names := ["self", "index"]) (loc0 := [("self", .ref a), ("index", .int k)]) (n := n + 2) ok hK (f_seek _) (bind2 fun v w _ => by kernel_rfl) (by kernel_rfl) (by decide +kernel) rfl rfl fun Y okY hI => ?_
  have hKY : Y.K = KK pp := hI.K.trans hK
  have hcY : Y.ctx = none := hI.ctx.trans hc
  have hPY := hI.prog.trans hP
  have t1 := tk.inst
  have t2 := tk.dict
  have tk' := tk.upd k d
  conv in bodyAt _ _ => whnf
  ((try dsimp only); (with_reducible refine WXs_cons ?_))
  ((try dsimp only); ((with_reducible refine WX_SetAttr (hs := ?hsz11) ?_); (case hsz11 => intro _; rfl)))
  ((try dsimp only); ((with_reducible refine W_local (d := ?dz12) (by assumption) ?hkz12 ?hlz12 ?qz12 ?hdz12); (case hkz12 => (have hh := In.scope ‹In _ _ _›; exact kindE hh (by kernel_rfl))); (case hlz12 => ((with_reducible refine lk_skip ?hne2z12 ?hrest2z12); (case hne2z12 => decide +kernel); (with_reducible exact lk_hit))); (case hdz12 => decide +kernel); (try dsimp only)))
  ((try dsimp only); ((with_reducible refine W_local (d := ?dz13) (by assumption) ?hkz13 ?hlz13 ?qz13 ?hdz13); (case hkz13 => (have hh := In.scope ‹In _ _ _›; exact kindE hh (by kernel_rfl))); (case hlz13 => ((with_reducible exact lk_hit))); (case hdz13 => decide +kernel); (try dsimp only)))
  refine sa_inst okY t1 t2 (hKY ▸ ks_index _) (by show 5 ≤ 90; decide) ?_
  rw [up_index]
  ((try dsimp only); (with_reducible refine WXs_cons ?_))
  refine WX_Expr (hs := by intro _; rfl) okY ?_
  refine W_Method (hbase := by intro _; rfl) (hfew := by intro _; rfl) (hline := by rfl) (hplain := by intro _; rfl) okY ?_
  ((try dsimp only); ((with_reducible refine W_local (d := ?dz15) (by assumption) ?hkz15 ?hlz15 ?qz15 ?hdz15); (case hkz15 => (have hh := In.scope ‹In _ _ _›; exact kindE hh (by kernel_rfl))); (case hlz15 => ((with_reducible exact lk_hit))); (case hdz15 => decide +kernel); (try dsimp only)))
  refine getm_inst okY tk'.inst tk'.dict (hKY ▸ km_next _) (by kernel_rfl) ⟨keeps_fn hKY (by kernel_rfl), ?_⟩
  refine WA_nil ?_
  refine c_next' (n := n) okY hKY hPY hcY tk' hl hk ?_
  cases h : sg l k with
  | none => rw [h] at q; exact q
  | some je =>
    obtain ⟨j, e⟩ := je
    rw [h] at q
    dsimp only at q ⊢
    ((try dsimp only); ((with_reducible refine WXs_nil ?_); (try dsimp only)))
    rw [upd_upd]
    exact q
theorem c_new {pp : Params} {X : Cx} {n : Nat} {σ : S} {E : Value → S → Prop} {l : List Nat} {Q : V → S → Prop} (ok : Ok X (n + 3)) (hK : X.K = KK pp) (hP : X.prog = PySem.Challenge.rw_ij0062_06.row.prog) (hc : X.ctx = none) (hl : l.length ≤ 1000)
    (q : ∀ a dx hp', σ.hp a = none → σ.hp dx = none → (∀ b o, σ.hp b = some o → hp' b = some o) → match sg l 0 with
      | none => E (.ref CP) ⟨σ.loc, hp'⟩
      | some (j, e) => Tk hp' a dx l j e → Q (.ref a) ⟨σ.loc, hp'⟩) : Call X (.ref CT) [.str l] σ Q E := by
  refine Call.make' (names := ["self", "string"]) (loc0 := fun a => [("self", .ref a), ("string", .str l)]) (n := n + 2) ok hK (km_make _) (f_init _) (bind2 fun v w _ => by kernel_rfl) (by kernel_rfl) (by decide +kernel) rfl (fun _ => rfl) fun Y a dx okY hI ha hdx hne => ?_
  have hKY : Y.K = KK pp := hI.K.trans hK
  have hcY : Y.ctx = none := hI.ctx.trans hc
  have hPY := hI.prog.trans hP
  have stp : ∀ o : HO, upd (upd (upd σ.hp dx (.dict [])) a (.inst CT dx)) dx o a = some (.inst CT dx) ∧ upd (upd (upd σ.hp dx (.dict [])) a (.inst CT dx)) dx o dx = some o ∧ ∀ b o', σ.hp b = some o' → upd (upd (upd σ.hp dx (.dict [])) a (.inst CT dx)) dx o b = some o' := fun o =>
    ⟨by rw [upd_ne hne, upd_self], upd_self, fun b o' e => by
      rw [upd_ne (fun z => by rw [z, hdx] at e; cases e), upd_ne (fun z => by rw [z, ha] at e; cases e), upd_ne (fun z => by rw [z, hdx] at e; cases e)]; exact e⟩
  have t1 : upd (upd σ.hp dx (.dict [])) a (.inst CT dx) a = some (.inst CT dx) := upd_self
  have t2 : upd (upd σ.hp dx (.dict [])) a (.inst CT dx) dx = some (.dict []) := by rw [upd_ne hne.symm, upd_self]
  conv in bodyAt _ _ => whnf
  ((try dsimp only); (with_reducible refine WXs_cons ?_))
  ((try dsimp only); ((with_reducible refine WX_SetAttr (hs := ?hsz18) ?_); (case hsz18 => intro _; rfl)))
  refine W_Call (hplain := by intro _; rfl) okY ?_
  refine W_bi (v := .builtin "isinstance") okY hKY (by (have hh := In.scope ‹In _ _ _›; exact kindE hh (by kernel_rfl))) (b_isinst _) (by kernel_rfl) (by decide +kernel) (by decide +kernel) ?_
  refine ⟨_, rfl, keeps_builtin, ?_⟩
  refine WA_cons ?_
  ((try dsimp only); ((with_reducible refine W_local (d := ?dz20) (by assumption) ?hkz20 ?hlz20 ?qz20 ?hdz20); (case hkz20 => (have hh := In.scope ‹In _ _ _›; exact kindE hh (by kernel_rfl))); (case hlz20 => ((with_reducible refine lk_skip ?hne2z20 ?hrest2z20); (case hne2z20 => decide +kernel); (with_reducible exact lk_hit))); (case hdz20 => decide +kernel); (try dsimp only)))
  refine WA_cons ?_
  refine W_bi (v := .type "str") okY hKY (by (have hh := In.scope ‹In _ _ _›; exact kindE hh (by kernel_rfl))) (b_str _) (by kernel_rfl) (by decide +kernel) (by decide +kernel) ?_
  refine WA_nil ?_
  refine c_isstr ?_
  ((try dsimp only); ((with_reducible refine W_local (d := ?dz22) (by assumption) ?hkz22 ?hlz22 ?qz22 ?hdz22); (case hkz22 => (have hh := In.scope ‹In _ _ _›; exact kindE hh (by kernel_rfl))); (case hlz22 => ((with_reducible exact lk_hit))); (case hdz22 => decide +kernel); (try dsimp only)))
  refine sa_inst okY t1 t2 (hKY ▸ ks_istext _) (Nat.le_of_ble_eq_true (by kernel_rfl)) ?_
  ((try dsimp only); (with_reducible refine WXs_cons ?_))
  ((try dsimp only); ((with_reducible refine WX_SetAttr (hs := ?hsz24) ?_); (case hsz24 => intro _; rfl)))
  ((try dsimp only); ((with_reducible refine W_local (d := ?dz25) (by assumption) ?hkz25 ?hlz25 ?qz25 ?hdz25); (case hkz25 => (have hh := In.scope ‹In _ _ _›; exact kindE hh (by kernel_rfl))); (case hlz25 => ((with_reducible refine lk_skip ?hne2z25 ?hrest2z25); (case hne2z25 => decide +kernel); (with_reducible exact lk_hit))); (case hdz25 => decide +kernel); (try dsimp only)))
  ((try dsimp only); ((with_reducible refine W_local (d := ?dz26) (by assumption) ?hkz26 ?hlz26 ?qz26 ?hdz26); (case hkz26 => (have hh := In.scope ‹In _ _ _›; exact kindE hh (by kernel_rfl))); (case hlz26 => ((with_reducible exact lk_hit))); (case hdz26 => decide +kernel); (try dsimp only)))
  refine sa_inst okY (stp _).1 (stp _).2.1 (hKY ▸ ks_string _) (Nat.le_of_ble_eq_true (by kernel_rfl)) ?_
  rw [upd_upd]
  ((try dsimp only); (with_reducible refine WXs_cons ?_))
  ((try dsimp only); (with_reducible refine WX_If ?_))
  ((try dsimp only); (with_reducible refine WT_Not ?_))
  refine WT_value (he := by intro _ _; rfl) ?_
  refine W_field (d := .bool true) (by assumption) ?_ (by decide +kernel) (by ((with_reducible exact lk_hit))) (stp _).1 (stp _).2.1 (hKY ▸ kg_istext _) (by kernel_rfl) (fun _ e => by cases e) (t_bool ?_)
  · (have hh := In.scope ‹In _ _ _›; exact kindE hh (by kernel_rfl))
  rw [if_neg (by decide)]
  ((try dsimp only); ((with_reducible refine WXs_nil ?_); (try dsimp only)))
  ((try dsimp only); (with_reducible refine WXs_cons ?_))
  ((try dsimp only); ((with_reducible refine WX_SetAttr (hs := ?hsz34) ?_); (case hsz34 => intro _; rfl)))
  ((try dsimp only); ((with_reducible refine W_local (d := ?dz35) (by assumption) ?hkz35 ?hlz35 ?qz35 ?hdz35); (case hkz35 => (have hh := In.scope ‹In _ _ _›; exact kindE hh (by kernel_rfl))); (case hlz35 => ((with_reducible refine lk_skip ?hne2z35 ?hrest2z35); (case hne2z35 => decide +kernel); (with_reducible exact lk_hit))); (case hdz35 => decide +kernel); (try dsimp only)))
  ((try dsimp only); ((with_reducible refine W_local (d := ?dz36) (by assumption) ?hkz36 ?hlz36 ?qz36 ?hdz36); (case hkz36 => (have hh := In.scope ‹In _ _ _›; exact kindE hh (by kernel_rfl))); (case hlz36 => ((with_reducible exact lk_hit))); (case hdz36 => decide +kernel); (try dsimp only)))
  refine sa_inst okY (stp _).1 (stp _).2.1 (hKY ▸ ks_dec _) (Nat.le_of_ble_eq_true (by kernel_rfl)) ?_
  rw [upd_upd]
  ((try dsimp only); (with_reducible refine WXs_cons ?_))
  ((try dsimp only); ((with_reducible refine WX_SetAttr (hs := ?hsz38) ?_); (case hsz38 => intro _; rfl)))
  ((try dsimp only); ((with_reducible refine W_int ?_); (try dsimp only)))
  ((try dsimp only); ((with_reducible refine W_local (d := ?dz40) (by assumption) ?hkz40 ?hlz40 ?qz40 ?hdz40); (case hkz40 => (have hh := In.scope ‹In _ _ _›; exact kindE hh (by kernel_rfl))); (case hlz40 => ((with_reducible exact lk_hit))); (case hdz40 => decide +kernel); (try dsimp only)))
  refine sa_inst okY (stp _).1 (stp _).2.1 (hKY ▸ ks_index _) (Nat.le_of_ble_eq_true (by kernel_rfl)) ?_
  rw [upd_upd]
  ((try dsimp only); (with_reducible refine WXs_cons ?_))
  ((try dsimp only); ((with_reducible refine WX_SetAttr (hs := ?hsz42) ?_); (case hsz42 => intro _; rfl)))
  ((try dsimp only); ((with_reducible refine W_none ?_); (try dsimp only)))
  ((try dsimp only); ((with_reducible refine W_local (d := ?dz44) (by assumption) ?hkz44 ?hlz44 ?qz44 ?hdz44); (case hkz44 => (have hh := In.scope ‹In _ _ _›; exact kindE hh (by kernel_rfl))); (case hlz44 => ((with_reducible exact lk_hit))); (case hdz44 => decide +kernel); (try dsimp only)))
  refine sa_inst okY (stp _).1 (stp _).2.1 (hKY ▸ ks_next _) (Nat.le_of_ble_eq_true (by kernel_rfl)) ?_
  rw [upd_upd]
  rw [show updF (updF (updF (updF (updF [] (Str.ofString "istext") (V.bool true)) (Str.ofString "string") (V.str l)) (Str.ofString "decoded_string") (V.str l)) (Str.ofString "index") (V.int 0)) (Str.ofString "next") V.none = tokFs l 0 .none from by kernel_rfl]
  have tk : Tk (upd (upd (upd σ.hp dx (.dict [])) a (.inst CT dx)) dx (.dict (tokFs l 0 .none))) a dx l 0 .none := ⟨(stp _).1, (stp _).2.1⟩
  ((try dsimp only); (with_reducible refine WXs_cons ?_))
  refine WX_Expr (hs := by intro _; rfl) okY ?_
  refine W_Method (hbase := by intro _; rfl) (hfew := by intro _; rfl) (hline := by rfl) (hplain := by intro _; rfl) okY ?_
  ((try dsimp only); ((with_reducible refine W_local (d := ?dz46) (by assumption) ?hkz46 ?hlz46 ?qz46 ?hdz46); (case hkz46 => (have hh := In.scope ‹In _ _ _›; exact kindE hh (by kernel_rfl))); (case hlz46 => ((with_reducible exact lk_hit))); (case hdz46 => decide +kernel); (try dsimp only)))
  refine getm_inst okY tk.inst tk.dict (hKY ▸ km_next _) (by kernel_rfl) ⟨keeps_fn hKY (by kernel_rfl), ?_⟩
  refine WA_nil ?_
  refine c_next' (n := n) okY hKY hPY hcY tk hl (by omega) ?_
  cases h : sg l 0 with
  | none =>
    have q' := q a dx _ ha hdx (stp (.dict (tokFs l 0 .none))).2.2
    rw [h] at q'; exact q'
  | some je =>
    obtain ⟨j, e⟩ := je
    have q' := q a dx _ ha hdx (stp (.dict (tokFs l j e))).2.2
    rw [h] at q'
    dsimp only at q' ⊢
    ((try dsimp only); ((with_reducible refine WXs_nil ?_); (try dsimp only)))
    rw [upd_upd]
    exact ⟨rfl, q' ⟨(stp _).1, (stp _).2.1⟩⟩
end Mine
namespace Mine
open PySem PySem.W PySem.Calls PySem.Spec PyProof.Rows
inductive Rd (l : List Nat) (i : Nat) (err : Bool) : V → List (List Nat) → Prop
  | nil : i ≤ l.length → l.length ≤ i → err = false → Rd l i err .none []
  | cons (s : List Nat) (S' : List (List Nat)) : i ≤ l.length → s ≠ [] → s.length ≤ 2 → rs (l.drop i) = (S', err) → Rd l i err (.str s) (s :: S')
theorem Rd.le {l : List Nat} {i : Nat} {err : Bool} {d : V} {S : List (List Nat)} (x : Rd l i err d S) : i ≤ l.length := by cases x <;> assumption
theorem Rd.lit {l : List Nat} {i : Nat} {err : Bool} {d : V} {S : List (List Nat)} (x : Rd l i err d S) : ∀ w, d ≠ .lit w := by cases x <;> (intro w e; cases e)
theorem sg_rs {l : List Nat} {i : Nat} (hi : i ≤ l.length) : match sg l i with
    | none => rs (l.drop i) = ([], true)
    | some (j, d) => Rd l j (rs (l.drop i)).2 d (rs (l.drop i)).1 := by
  unfold sg
  cases h : l[i]? with
  | none =>
    have hl : l.length ≤ i := List.getElem?_eq_none_iff.mp h
    have : l.drop i = [] := List.drop_eq_nil_of_le hl
    dsimp only
    rw [this]
    exact .nil hi hl rfl
  | some c =>
    obtain ⟨hlt, hc⟩ := List.getElem?_eq_some_iff.mp h
    have e1 : l.drop i = c :: l.drop (i + 1) := by rw [List.drop_eq_getElem_cons hlt, hc]
    dsimp only
    by_cases h92 : c = 92
    · subst h92
      rw [if_pos rfl]
      cases h2 : l[i + 1]? with
      | none =>
        have : l.drop (i + 1) = [] := List.drop_eq_nil_of_le (List.getElem?_eq_none_iff.mp h2)
        dsimp only
        rw [e1, this]; rfl
      | some c2 =>
        obtain ⟨hlt2, hc2⟩ := List.getElem?_eq_some_iff.mp h2
        have e2 : l.drop (i + 1) = c2 :: l.drop (i + 2) := by rw [List.drop_eq_getElem_cons hlt2, hc2]
        dsimp only
        rw [e1, e2, rs_esc]
        exact .cons _ _ (by omega) (by simp) (by simp) rfl
    · rw [if_neg h92]
      dsimp only
      rw [e1, rs_plain _ h92]
      exact .cons _ _ (by omega) (by simp) (by simp) rfl
theorem sg_cons {l : List Nat} {i : Nat} {err : Bool} {s : List Nat} {S' : List (List Nat)} (x : Rd l i err (.str s) (s :: S')) : match sg l i with
    | none => S' = [] ∧ err = true
    | some (j, d) => Rd l j err d S' := by
  cases x with
  | cons _ _ hi h1 h2 h3 =>
    have y := sg_rs hi
    rw [h3] at y
    cases h : sg l i with
    | none => rw [h] at y; simpa using y
    | some jd => rw [h] at y; exact y
theorem sg_nil {l : List Nat} {i : Nat} {err : Bool} (x : Rd l i err .none []) : sg l i = some (i, .none) := by
  cases x with
  | nil h1 h2 _ => unfold sg; rw [List.getElem?_eq_none_iff.mpr h2]
noncomputable def ov : Option (List Nat) → V
  | none => .none
  | some z => .str z
theorem s_e : (Str.ofString "").cps.toList = [] := by decide +kernel
theorem s_hash : (Str.ofString "#").cps.toList = [35] := by decide +kernel
theorem s_nl' : (Str.ofString "\n").cps.toList = [10] := by decide +kernel
theorem s_sp : (Str.ofString " ").cps.toList = [32] := by decide +kernel
inductive KInv (l : List Nat) (err : Bool) (SS : List (List Nat)) (hp : Addr → Option HO) (a b dx : Addr) (k : Nat) (σ' : S) : Prop
  | mk (j : Nat) (dd : V) (S' : List (List Nat)) (ka : List (List Nat)) (ra : List Nat) (e : k = S'.length) (rd' : Rd l j err dd S') (hka : ka ++ kp S' = kp SS) (hra : ra ++ S'.flatten = SS.flatten) (eh : σ'.hp = upd (upd hp dx (.dict (tokFs l j dd))) b (.lst (ka.map .str)))
    (et : lk σ'.loc "t" = some (.ref a)) (ek : lk σ'.loc "kept" = some (.ref b)) (er : lk σ'.loc "read" = some (.str ra))
inductive KInv2 (l : List Nat) (err : Bool) (SS S' : List (List Nat)) (ka : List (List Nat)) (hp : Addr → Option HO) (a b dx : Addr) (k' : Nat) (σ' : S) : Prop
  | mk (j : Nat) (dd : V) (S'' : List (List Nat)) (so : Option (List Nat)) (ra' : List Nat) (e : k' = (if so = none then 0 else S''.length + 1)) (hso : ∀ z, so = some z → z ≠ [] ∧ z.length ≤ 2) (rd'' : Rd l j err dd S'') (hle : S''.length ≤ S'.length) (hka2 : ka ++ kp (if so = none ∨ so = some [10] then S'' else skp S'') = kp SS) (hra2 : ra' ++ S''.flatten = SS.flatten)
    (eh : σ'.hp = upd (upd hp dx (.dict (tokFs l j dd))) b (.lst (ka.map .str))) (et : lk σ'.loc "t" = some (.ref a)) (ek : lk σ'.loc "kept" = some (.ref b)) (er : lk σ'.loc "read" = some (.str ra')) (es : lk σ'.loc "sign" = some (ov so))
theorem c_kept {pp : Params} {X : Cx} {n : Nat} {σ : S} {E : Value → S → Prop} {a dx : Addr} {l : List Nat} {i : Nat} {d : V} {err : Bool} {SS : List (List Nat)} {Q : V → S → Prop} (ok : Ok X (n + 4)) (hK : X.K = KK pp) (hP : X.prog = PySem.Challenge.rw_ij0062_06.row.prog) (hc : X.ctx = none) (tk : Tk σ.hp a dx l i d) (hl : l.length ≤ 1000) (rd : Rd l i err d SS) (hSS : SS.flatten.length ≤ 1000) (hS2 : SS.length ≤ 1000)
    (qe : err = true → ∀ j e, (∀ w, e ≠ .lit w) → E (.ref CP) { σ with hp := upd σ.hp dx (.dict (tokFs l j e)) })
    (q : err = false → ∀ j, Q (.tup [.lst ((kp SS).map .str), .str SS.flatten]) { σ with hp := upd σ.hp dx (.dict (tokFs l j .none)) }) : Call X (.ref 144) [.ref a] σ Q E := by
  refine Call.dropE (Call.fz ?_)
  refine Call.fn' (names := ["t"]) (loc0 := [("t", .ref a)]) (n := n + 3) ok hK (f_kept _) (bind1 fun v _ => by kernel_rfl) (by kernel_rfl) (by decide +kernel) rfl rfl fun Y okY hI => ?_
  have hKY : Y.K = KK pp := hI.K.trans hK
  have hcY : Y.ctx = none := hI.ctx.trans hc
  have hPY := hI.prog.trans hP
  conv in bodyAt _ _ => whnf
  refine W.hide fun Q1 E1 hQ1 hE1 => ?_
  ((try dsimp only); (with_reducible refine WXs_cons ?_))
  ((try dsimp only); (with_reducible refine WX_Assign (hs := ?hsz136) (by assumption) ?hkz136 ?_); (case hsz136 => intro _; rfl); (case hkz136 => (have hh := In.scope ‹In _ _ _›; exact kindE hh (by kernel_rfl))))
  refine W_ListO okY ?_
  refine WA_nil ⟨by simp, fun b hb => ?_⟩
  ((try dsimp only); (with_reducible refine WXs_cons ?_))
  ((try dsimp only); (with_reducible refine WX_Assign (hs := ?hsz138) (by assumption) ?hkz138 ?_); (case hsz138 => intro _; rfl); (case hkz138 => (have hh := In.scope ‹In _ _ _›; exact kindE hh (by kernel_rfl))))
  refine W_str s_e ?_
  ((try dsimp only); (with_reducible refine WXs_cons ?_))
  have t1 := tk.inst
  have t2 := tk.dict
  have hbd : b ≠ dx := fun e => by
    have : σ.hp b = none := hb
    rw [e, t2] at this; cases this
  have hba : b ≠ a := fun e => by
    have : σ.hp b = none := hb
    rw [e, t1] at this; cases this
  have had : a ≠ dx := fun e => by rw [e, t2] at t1; cases t1
  have hb' : σ.hp b = none := hb
  have tkb : ∀ j dd L, Tk (upd (upd σ.hp dx (.dict (tokFs l j dd))) b L) a dx l j dd := fun j dd L =>
    ⟨by rw [upd_ne hba.symm, upd_ne had]; exact t1, by rw [upd_ne hbd.symm, upd_self]⟩
  have com : ∀ D D' L, upd (upd (upd σ.hp dx D) b L) dx D' = upd (upd σ.hp dx D') b L := fun D D' L => by
    funext c; unfold upd; by_cases h1 : c = dx <;> by_cases h2 : c = b <;> simp [h1, h2, hbd, hbd.symm]
  have sub : ∀ D L c o, upd σ.hp dx D c = some o → upd (upd σ.hp dx D) b L c = some o := fun D L c o e => by
    by_cases hcb : c = b
    · rw [hcb, upd_ne hbd, hb'] at e; cases e
    · rw [upd_ne hcb]; exact e
  refine WX_While okY hI.env (KInv l err SS σ.hp a b dx) (fun k σ' inv => ?_) SS.length ⟨i, d, SS, [], [], rfl, rd, rfl, rfl, ?_, by ((with_reducible refine lkp_skip ?hne3z140 ?hrest3z140); (case hne3z140 => decide +kernel); (with_reducible refine lkp_skip ?hne2z140 ?hrest2z140); (case hne2z140 => decide +kernel); (with_reducible exact lk_hit)), by ((with_reducible refine lkp_skip ?hne2z141 ?hrest2z141); (case hne2z141 => decide +kernel); (with_reducible exact lk_put_self)), by ((with_reducible exact lk_put_self))⟩
  · obtain ⟨loc, hp⟩ := σ'
    obtain ⟨j, dd, S', ka, ra, rfl, rd', hka, hra, eh, et, ek, er⟩ := inv
    dsimp only at et ek er eh
    have t1' : hp a = _ := eh ▸ (tkb j dd (.lst (ka.map .str))).inst
    have t2' : hp dx = _ := eh ▸ (tkb j dd (.lst (ka.map .str))).dict
    have hpb : hp b = some (.lst (ka.map .str)) := by rw [eh, upd_self]
    have com' : ∀ D', upd hp dx D' = upd (upd σ.hp dx D') b (.lst (ka.map .str)) := fun D' => by rw [eh, com]
    have sub' : ∀ c o, upd σ.hp dx (.dict (tokFs l j dd)) c = some o → hp c = some o := fun c o e => by rw [eh]; exact sub _ _ c o e
    have hjl := rd'.le
    ((try dsimp only); ((with_reducible refine WT_Compare (hm := ?hmz143) ?_); (case hmz143 => with_unfolding_all rfl)))
    refine W_field (by assumption) ?_ (by decide +kernel) (by ((with_reducible assumption))) t1' t2' (hKY ▸ kg_next _) (tok_next _ _ _) rd'.lit ?_
    · (have hh := In.scope ‹In _ _ _›; exact kindE hh (by kernel_rfl))
    ((try dsimp only); ((with_reducible refine W_none ?_); (try dsimp only)))
    cases rd' with
    | nil h1 h2 h3 =>
      refine o_notnone trivial (t_bool ?_)
      rw [if_neg (by decide)]
      ((try dsimp only); ((with_reducible refine WXs_nil ?_); (try dsimp only)))
      ((try dsimp only); (with_reducible refine WXs_cons ?_))
      ((try dsimp only); (with_reducible refine WX_Return ?_))
      refine W_Tuple ?_
      refine WA_cons ?_
      ((try dsimp only); ((with_reducible refine W_local (d := ?dz150) (by assumption) ?hkz150 ?hlz150 ?qz150 ?hdz150); (case hkz150 => (have hh := In.scope ‹In _ _ _›; exact kindE hh (by kernel_rfl))); (case hlz150 => ((with_reducible assumption))); (case hdz150 => decide +kernel); (try dsimp only)))
      refine WA_cons ?_
      ((try dsimp only); ((with_reducible refine W_local (d := ?dz151) (by assumption) ?hkz151 ?hlz151 ?qz151 ?hdz151); (case hkz151 => (have hh := In.scope ‹In _ _ _›; exact kindE hh (by kernel_rfl))); (case hlz151 => ((with_reducible assumption))); (case hdz151 => decide +kernel); (try dsimp only)))
      refine WA_nil ⟨by simp, ?_⟩
      have hka' : ka = kp SS := by rw [← hka, kp]; simp
      have hra' : ra = SS.flatten := by rw [← hra]; simp
      refine hQ1 _ _ ⟨upd σ.hp dx (.dict (tokFs l j .none)), .tup [.lst ((kp SS).map .str), .str SS.flatten], sub', ?_, q h3 j⟩
      rw [← hka', ← hra']
      exact .pair (.own hpb (by rw [upd_ne hbd]; exact hb')) (.refl _)
    | cons s S' h1 h2 h3 h4 =>
      have rd' : Rd l j err (.str s) (s :: S') := .cons s S' h1 h2 h3 h4
      have hfl : (ra ++ (s :: S').flatten).length ≤ 1000 := by rw [hra]; exact hSS
      have hkl : ka.length ≤ 1000 := by
        have h5 := congrArg List.length hka
        rw [List.length_append] at h5
        have := kp_len SS
        omega
      simp only [List.flatten_cons, List.length_append] at hfl
      refine o_notnone trivial (t_bool ?_)
      rw [if_pos (by rfl)]
      refine W.hideQ fun Q2 hQ2 => ?_
      ((try dsimp only); (with_reducible refine WXs_cons ?_))
      ((try dsimp only); (with_reducible refine WX_Assign (hs := ?hsz153) (by assumption) ?hkz153 ?_); (case hsz153 => intro _; rfl); (case hkz153 => (have hh := In.scope ‹In _ _ _›; exact kindE hh (by kernel_rfl))))
      refine W_Method (hbase := by intro _; rfl) (hfew := by intro _; rfl) (hline := by rfl) (hplain := by intro _; rfl) okY ?_
      ((try dsimp only); ((with_reducible refine W_local (d := ?dz154) (by assumption) ?hkz154 ?hlz154 ?qz154 ?hdz154); (case hkz154 => (have hh := In.scope ‹In _ _ _›; exact kindE hh (by kernel_rfl))); (case hlz154 => ((with_reducible assumption))); (case hdz154 => decide +kernel); (try dsimp only)))
      refine getm_inst okY t1' t2' (hKY ▸ km_get _) (by kernel_rfl) ⟨keeps_fn hKY (by kernel_rfl), ?_⟩
      refine WA_nil ?_
      refine c_get (n := n) okY hKY hPY hcY ⟨t1', t2'⟩ (fun _ e => by cases e) hl (by omega) ?_
      have hsg := sg_cons rd'
      cases hs : sg l j with
      | none =>
        rw [hs] at hsg
        exact hE1 _ _ ⟨_, sub', qe hsg.2 j (.str s) fun _ e => by cases e⟩
      | some je =>
        obtain ⟨j1, d1⟩ := je
        rw [hs] at hsg
        dsimp only at hsg ⊢
        have eh1 := com' (.dict (tokFs l j1 d1))
        have hb1 : upd hp dx (.dict (tokFs l j1 d1)) b = some (.lst (ka.map .str)) := by rw [upd_ne hbd]; exact hpb
        generalize upd hp dx (.dict (tokFs l j1 d1)) = hp1 at eh1 hb1 ⊢
        clear com' sub'
        ((try dsimp only); (with_reducible refine WXs_cons ?_))
        ((try dsimp only); (with_reducible refine WX_Aug (d := ?dz156) (by assumption) ?hkz156 ?hlz156 ?_); (case hkz156 => (have hh := In.scope ‹In _ _ _›; exact kindE hh (by kernel_rfl))); (case hlz156 => ((with_reducible refine lkp_skip ?hne2z156 ?hrest2z156); (case hne2z156 => decide +kernel); (with_reducible assumption))))
        ((try dsimp only); ((with_reducible refine W_local (d := ?dz157) (by assumption) ?hkz157 ?hlz157 ?qz157 ?hdz157); (case hkz157 => (have hh := In.scope ‹In _ _ _›; exact kindE hh (by kernel_rfl))); (case hlz157 => ((with_reducible exact lk_put_self))); (case hdz157 => decide +kernel); (try dsimp only)))
        refine o_iadds (by omega) ?_
        ((try dsimp only); (with_reducible refine WXs_cons ?_))
        ((try dsimp only); (with_reducible refine WX_If ?_))
        ((try dsimp only); ((with_reducible refine WT_Compare (hm := ?hmz160) ?_); (case hmz160 => with_unfolding_all rfl)))
        ((try dsimp only); ((with_reducible refine W_local (d := ?dz161) (by assumption) ?hkz161 ?hlz161 ?qz161 ?hdz161); (case hkz161 => (have hh := In.scope ‹In _ _ _›; exact kindE hh (by kernel_rfl))); (case hlz161 => ((with_reducible refine lkp_skip ?hne2z161 ?hrest2z161); (case hne2z161 => decide +kernel); (with_reducible exact lk_put_self))); (case hdz161 => decide +kernel); (try dsimp only)))
        refine W_str s_hash ?_
        refine o_eqs (t_bool ?_)
        by_cases hh : s = [35]
        · rw [if_pos (by simpa using hh)]
          ((try dsimp only); (with_reducible refine WXs_cons ?_))
          refine WX_While okY hI.env (KInv2 l err SS S' ka σ.hp a b dx) (fun k' σ' inv => ?_) _ ⟨j1, d1, S', some s, ra ++ s, rfl, fun z e => by cases e; exact ⟨h2, h3⟩, hsg, Nat.le_refl _, ?_, ?_, eh1, by ((with_reducible refine lkp_skip ?hne3z163 ?hrest3z163); (case hne3z163 => decide +kernel); (with_reducible refine lkp_skip ?hne2z163 ?hrest2z163); (case hne2z163 => decide +kernel); (with_reducible assumption)), by ((with_reducible refine lkp_skip ?hne3z164 ?hrest3z164); (case hne3z164 => decide +kernel); (with_reducible refine lkp_skip ?hne2z164 ?hrest2z164); (case hne2z164 => decide +kernel); (with_reducible assumption)), by ((with_reducible exact lk_put_self)), by show lk _ _ = some (.str s); ((with_reducible refine lkp_skip ?hne2z166 ?hrest2z166); (case hne2z166 => decide +kernel); (with_reducible exact lk_put_self))⟩
          · obtain ⟨loc, hp⟩ := σ'
            clear et ek er
            obtain ⟨j, dd, S'', so, ra', rfl, hso, rd'', hle, hka2, hra2, eh, et, ek, er, es⟩ := inv
            dsimp only at et ek er es eh
            have hfl2 : (ra' ++ S''.flatten).length ≤ 1000 := by rw [hra2]; exact hSS
            rw [List.length_append] at hfl2
            have hjl := rd''.le
            have tkj : Tk hp a dx l j dd := eh ▸ tkb j dd (.lst (ka.map .str))
            have com' : ∀ D', upd hp dx D' = upd (upd σ.hp dx D') b (.lst (ka.map .str)) := fun D' => by rw [eh, com]
            have sub' : ∀ c o, upd σ.hp dx (.dict (tokFs l j dd)) c = some o → hp c = some o := fun c o e => by rw [eh]; exact sub _ _ c o e
            ((try dsimp only); (with_reducible refine WT_And2 ?_))
            ((try dsimp only); ((with_reducible refine WT_Compare (hm := ?hmz168) ?_); (case hmz168 => with_unfolding_all rfl)))
            ((try dsimp only); ((with_reducible refine W_local (d := ?dz169) (by assumption) ?hkz169 ?hlz169 ?qz169 ?hdz169); (case hkz169 => (have hh := In.scope ‹In _ _ _›; exact kindE hh (by kernel_rfl))); (case hlz169 => ((with_reducible assumption))); (case hdz169 => decide +kernel); (try dsimp only)))
            ((try dsimp only); ((with_reducible refine W_none ?_); (try dsimp only)))
            cases so with
            | none =>
              refine o_notnone trivial (t_bool ?_)
              rw [if_neg (by decide), if_neg (by decide)]
              ((try dsimp only); ((with_reducible refine WXs_nil ?_); (try dsimp only)))
              ((try dsimp only); ((with_reducible refine WXs_nil ?_); (try dsimp only)))
              ((try dsimp only); ((with_reducible refine WXs_nil ?_); (try dsimp only)))
              exact hQ2 _ _ ⟨S''.length, by simp; omega, j, dd, S'', ka, ra', rfl, rd'', by simpa using hka2, hra2, eh, et, ek, er⟩
            | some z =>
              obtain ⟨hz1, hz2⟩ := hso z rfl
              refine o_notnone trivial (t_bool ?_)
              rw [if_pos (by rfl)]
              ((try dsimp only); ((with_reducible refine WT_Compare (hm := ?hmz174) ?_); (case hmz174 => with_unfolding_all rfl)))
              ((try dsimp only); ((with_reducible refine W_local (d := ?dz175) (by assumption) ?hkz175 ?hlz175 ?qz175 ?hdz175); (case hkz175 => (have hh := In.scope ‹In _ _ _›; exact kindE hh (by kernel_rfl))); (case hlz175 => ((with_reducible assumption))); (case hdz175 => decide +kernel); (try dsimp only)))
              refine W_str s_nl' ?_
              refine o_nes (t_bool ?_)
              by_cases hz : z = [10]
              · rw [if_neg (by simpa using hz)]
                ((try dsimp only); ((with_reducible refine WXs_nil ?_); (try dsimp only)))
                ((try dsimp only); ((with_reducible refine WXs_nil ?_); (try dsimp only)))
                ((try dsimp only); ((with_reducible refine WXs_nil ?_); (try dsimp only)))
                exact hQ2 _ _ ⟨S''.length, by simp; omega, j, dd, S'', ka, ra', rfl, rd'', by simpa [hz] using hka2, hra2, eh, et, ek, er⟩
              · rw [if_pos (by simpa using hz)]
                have hka3 : ka ++ kp (skp S'') = kp SS := by simpa [hz] using hka2
                refine W.hideQ fun Q3 hQ3 => ?_
                ((try dsimp only); (with_reducible refine WXs_cons ?_))
                ((try dsimp only); (with_reducible refine WX_Assign (hs := ?hsz180) (by assumption) ?hkz180 ?_); (case hsz180 => intro _; rfl); (case hkz180 => (have hh := In.scope ‹In _ _ _›; exact kindE hh (by kernel_rfl))))
                refine W_Method (hbase := by intro _; rfl) (hfew := by intro _; rfl) (hline := by rfl) (hplain := by intro _; rfl) okY ?_
                ((try dsimp only); ((with_reducible refine W_local (d := ?dz181) (by assumption) ?hkz181 ?hlz181 ?qz181 ?hdz181); (case hkz181 => (have hh := In.scope ‹In _ _ _›; exact kindE hh (by kernel_rfl))); (case hlz181 => ((with_reducible assumption))); (case hdz181 => decide +kernel); (try dsimp only)))
                refine getm_inst okY tkj.inst tkj.dict (hKY ▸ km_get _) (by kernel_rfl) ⟨keeps_fn hKY (by kernel_rfl), ?_⟩
                refine WA_nil ?_
                refine c_get (n := n) okY hKY hPY hcY tkj rd''.lit hl (by omega) ?_
                cases rd'' with
                | nil r1 r2 r3 =>
                  rw [sg_nil (.nil r1 r2 r3 : Rd l j err .none [])]
                  dsimp only
                  rw [com']
                  ((try dsimp only); (with_reducible refine WXs_cons ?_))
                  ((try dsimp only); (with_reducible refine WX_Aug (d := ?dz183) (by assumption) ?hkz183 ?hlz183 ?_); (case hkz183 => (have hh := In.scope ‹In _ _ _›; exact kindE hh (by kernel_rfl))); (case hlz183 => ((with_reducible refine lkp_skip ?hne2z183 ?hrest2z183); (case hne2z183 => decide +kernel); (with_reducible assumption))))
                  refine W_Or ?_
                  ((try dsimp only); ((with_reducible refine W_local (d := ?dz184) (by assumption) ?hkz184 ?hlz184 ?qz184 ?hdz184); (case hkz184 => (have hh := In.scope ‹In _ _ _›; exact kindE hh (by kernel_rfl))); (case hlz184 => ((with_reducible exact lk_put_self))); (case hdz184 => decide +kernel); (try dsimp only)))
                  refine t_none ?_
                  rw [if_neg (by decide)]
                  refine W_str s_e ?_
                  refine o_iadds (by simp; omega) ?_
                  ((try dsimp only); ((with_reducible refine WXs_nil ?_); (try dsimp only)))
                  exact hQ3 _ _ ⟨0, by simp, j, .none, [], none, ra', rfl, (fun z e => by cases e), .nil r1 r2 r3, Nat.zero_le _, by simpa [skp] using hka3, by simpa using hra2, rfl, by ((with_reducible refine lkp_skip ?hne3z186 ?hrest3z186); (case hne3z186 => decide +kernel); (with_reducible refine lkp_skip ?hne2z186 ?hrest2z186); (case hne2z186 => decide +kernel); (with_reducible assumption)), by ((with_reducible refine lkp_skip ?hne3z187 ?hrest3z187); (case hne3z187 => decide +kernel); (with_reducible refine lkp_skip ?hne2z187 ?hrest2z187); (case hne2z187 => decide +kernel); (with_reducible assumption)), (by have h : ra' ++ [] = ra' := List.append_nil _; rw [h]; ((with_reducible exact lk_put_self))), by show lk _ _ = some .none; ((with_reducible refine lkp_skip ?hne2z189 ?hrest2z189); (case hne2z189 => decide +kernel); (with_reducible exact lk_put_self))⟩
                | cons z' S3 r1 r2 r3 r4 =>
                  have hsg2 := sg_cons (.cons z' S3 r1 r2 r3 r4 : Rd l j err (.str z') (z' :: S3))
                  simp only [List.flatten_cons, List.length_append] at hfl2
                  cases hs2 : sg l j with
                  | none =>
                    rw [hs2] at hsg2
                    exact hE1 _ _ ⟨_, sub', qe hsg2.2 j (.str z') fun _ e => by cases e⟩
                  | some je =>
                    obtain ⟨j2, d2⟩ := je
                    rw [hs2] at hsg2
                    dsimp only at hsg2 ⊢
                    have eh1 := com' (.dict (tokFs l j2 d2))
                    generalize upd hp dx (.dict (tokFs l j2 d2)) = hp1 at eh1 ⊢
                    ((try dsimp only); (with_reducible refine WXs_cons ?_))
                    ((try dsimp only); (with_reducible refine WX_Aug (d := ?dz191) (by assumption) ?hkz191 ?hlz191 ?_); (case hkz191 => (have hh := In.scope ‹In _ _ _›; exact kindE hh (by kernel_rfl))); (case hlz191 => ((with_reducible refine lkp_skip ?hne2z191 ?hrest2z191); (case hne2z191 => decide +kernel); (with_reducible assumption))))
                    refine W_Or ?_
                    ((try dsimp only); ((with_reducible refine W_local (d := ?dz192) (by assumption) ?hkz192 ?hlz192 ?qz192 ?hdz192); (case hkz192 => (have hh := In.scope ‹In _ _ _›; exact kindE hh (by kernel_rfl))); (case hlz192 => ((with_reducible exact lk_put_self))); (case hdz192 => decide +kernel); (try dsimp only)))
                    refine t_str (by omega) ?_
                    have hne : (!z'.isEmpty) = true := by cases z' with | nil => exact absurd rfl r2 | cons _ _ => rfl
                    rw [hne, if_pos rfl]
                    refine o_iadds (by omega) ?_
                    ((try dsimp only); ((with_reducible refine WXs_nil ?_); (try dsimp only)))
                    refine hQ3 _ _ ⟨S3.length + 1, by simp, j2, d2, S3, some z', ra' ++ z', by simp, (fun w e => by cases e; exact ⟨r2, r3⟩), hsg2, (by simp at hle; omega), ?_, by rw [← hra2]; simp, eh1, by ((with_reducible refine lkp_skip ?hne3z194 ?hrest3z194); (case hne3z194 => decide +kernel); (with_reducible refine lkp_skip ?hne2z194 ?hrest2z194); (case hne2z194 => decide +kernel); (with_reducible assumption)), by ((with_reducible refine lkp_skip ?hne3z195 ?hrest3z195); (case hne3z195 => decide +kernel); (with_reducible refine lkp_skip ?hne2z195 ?hrest2z195); (case hne2z195 => decide +kernel); (with_reducible assumption)), by ((with_reducible exact lk_put_self)), by show lk _ _ = some (.str z'); ((with_reducible refine lkp_skip ?hne2z197 ?hrest2z197); (case hne2z197 => decide +kernel); (with_reducible exact lk_put_self))⟩
                    rw [← hka3, skp]
                    by_cases h10 : z' = [10] <;> simp [h10]
          · rw [← hka, kp]; simp [hh]
          · rw [← hra]; simp
        · rw [if_neg (by simpa using hh)]
          ((try dsimp only); (with_reducible refine WXs_cons ?_))
          ((try dsimp only); (with_reducible refine WX_If ?_))
          ((try dsimp only); (with_reducible refine WT_And2 ?_))
          ((try dsimp only); ((with_reducible refine WT_Compare (hm := ?hmz201) ?_); (case hmz201 => with_unfolding_all rfl)))
          ((try dsimp only); ((with_reducible refine W_local (d := ?dz202) (by assumption) ?hkz202 ?hlz202 ?qz202 ?hdz202); (case hkz202 => (have hh := In.scope ‹In _ _ _›; exact kindE hh (by kernel_rfl))); (case hlz202 => ((with_reducible refine lkp_skip ?hne2z202 ?hrest2z202); (case hne2z202 => decide +kernel); (with_reducible exact lk_put_self))); (case hdz202 => decide +kernel); (try dsimp only)))
          refine W_str s_sp ?_
          refine o_nes (t_bool ?_)
          by_cases hsp : s = [32]
          · rw [if_neg (by simpa using hsp), if_neg (by decide)]
            ((try dsimp only); ((with_reducible refine WXs_nil ?_); (try dsimp only)))
            ((try dsimp only); ((with_reducible refine WXs_nil ?_); (try dsimp only)))
            ((try dsimp only); ((with_reducible refine WXs_nil ?_); (try dsimp only)))
            exact hQ2 _ _ ⟨S'.length, by simp, j1, d1, S', ka, ra ++ s, rfl, hsg, by rw [← hka, kp]; simp [hh, hsp], by rw [← hra]; simp, eh1, by ((with_reducible refine lkp_skip ?hne3z206 ?hrest3z206); (case hne3z206 => decide +kernel); (with_reducible refine lkp_skip ?hne2z206 ?hrest2z206); (case hne2z206 => decide +kernel); (with_reducible assumption)), by ((with_reducible refine lkp_skip ?hne3z207 ?hrest3z207); (case hne3z207 => decide +kernel); (with_reducible refine lkp_skip ?hne2z207 ?hrest2z207); (case hne2z207 => decide +kernel); (with_reducible assumption)), by ((with_reducible exact lk_put_self))⟩
          · rw [if_pos (by simpa using hsp)]
            ((try dsimp only); ((with_reducible refine WT_Compare (hm := ?hmz209) ?_); (case hmz209 => with_unfolding_all rfl)))
            ((try dsimp only); ((with_reducible refine W_local (d := ?dz210) (by assumption) ?hkz210 ?hlz210 ?qz210 ?hdz210); (case hkz210 => (have hh := In.scope ‹In _ _ _›; exact kindE hh (by kernel_rfl))); (case hlz210 => ((with_reducible refine lkp_skip ?hne2z210 ?hrest2z210); (case hne2z210 => decide +kernel); (with_reducible exact lk_put_self))); (case hdz210 => decide +kernel); (try dsimp only)))
            refine W_str s_nl' ?_
            refine o_nes (t_bool ?_)
            by_cases hnl : s = [10]
            · rw [if_neg (by simpa using hnl)]
              ((try dsimp only); ((with_reducible refine WXs_nil ?_); (try dsimp only)))
              ((try dsimp only); ((with_reducible refine WXs_nil ?_); (try dsimp only)))
              ((try dsimp only); ((with_reducible refine WXs_nil ?_); (try dsimp only)))
              exact hQ2 _ _ ⟨S'.length, by simp, j1, d1, S', ka, ra ++ s, rfl, hsg, by rw [← hka, kp]; simp [hh, hnl], by rw [← hra]; simp, eh1, by ((with_reducible refine lkp_skip ?hne3z214 ?hrest3z214); (case hne3z214 => decide +kernel); (with_reducible refine lkp_skip ?hne2z214 ?hrest2z214); (case hne2z214 => decide +kernel); (with_reducible assumption)), by ((with_reducible refine lkp_skip ?hne3z215 ?hrest3z215); (case hne3z215 => decide +kernel); (with_reducible refine lkp_skip ?hne2z215 ?hrest2z215); (case hne2z215 => decide +kernel); (with_reducible assumption)), by ((with_reducible exact lk_put_self))⟩
            · rw [if_pos (by simpa using hnl)]
              ((try dsimp only); (with_reducible refine WXs_cons ?_))
              refine WX_Expr (hs := by intro _; rfl) okY ?_
              refine W_Method (hbase := by intro _; rfl) (hfew := by intro _; rfl) (hline := by rfl) (hplain := by intro _; rfl) okY ?_
              ((try dsimp only); ((with_reducible refine W_local (d := ?dz218) (by assumption) ?hkz218 ?hlz218 ?qz218 ?hdz218); (case hkz218 => (have hh := In.scope ‹In _ _ _›; exact kindE hh (by kernel_rfl))); (case hlz218 => ((with_reducible refine lkp_skip ?hne3z218 ?hrest3z218); (case hne3z218 => decide +kernel); (with_reducible refine lkp_skip ?hne2z218 ?hrest2z218); (case hne2z218 => decide +kernel); (with_reducible assumption))); (case hdz218 => decide +kernel); (try dsimp only)))
              refine gm_append (ds := ka.map .str) hb1 ⟨keeps_builtin, ?_⟩
              refine WA_cons ?_
              ((try dsimp only); ((with_reducible refine W_local (d := ?dz219) (by assumption) ?hkz219 ?hlz219 ?qz219 ?hdz219); (case hkz219 => (have hh := In.scope ‹In _ _ _›; exact kindE hh (by kernel_rfl))); (case hlz219 => ((with_reducible refine lkp_skip ?hne2z219 ?hrest2z219); (case hne2z219 => decide +kernel); (with_reducible exact lk_put_self))); (case hdz219 => decide +kernel); (try dsimp only)))
              refine WA_nil ?_
              refine c_append (ds := ka.map .str) okY hb1 (by rw [List.length_map]; omega) ?_
              ((try dsimp only); ((with_reducible refine WXs_nil ?_); (try dsimp only)))
              ((try dsimp only); ((with_reducible refine WXs_nil ?_); (try dsimp only)))
              ((try dsimp only); ((with_reducible refine WXs_nil ?_); (try dsimp only)))
              exact hQ2 _ _ ⟨S'.length, by simp, j1, d1, S', ka ++ [s], ra ++ s, rfl, hsg, by rw [← hka, kp]; simp [hh, hsp, hnl], by rw [← hra]; simp, by rw [eh1, upd_upd]; simp, by ((with_reducible refine lkp_skip ?hne3z223 ?hrest3z223); (case hne3z223 => decide +kernel); (with_reducible refine lkp_skip ?hne2z223 ?hrest2z223); (case hne2z223 => decide +kernel); (with_reducible assumption)), by ((with_reducible refine lkp_skip ?hne3z224 ?hrest3z224); (case hne3z224 => decide +kernel); (with_reducible refine lkp_skip ?hne2z224 ?hrest2z224); (case hne2z224 => decide +kernel); (with_reducible assumption)), by ((with_reducible exact lk_put_self))⟩
  · show upd σ.hp b (.lst []) = _
    rw [upd_same t2]; rfl
end Mine
namespace Mine
open PySem
theorem repR_len {sub new : List Nat} (hs : sub ≠ []) (h : sub.length = new.length) : ∀ (l : List Nat) (k : Nat), (repR sub new k l).length = l.length - k
  | [], k => by cases k <;> simp [repR]
  | a :: l, 0 => by
    unfold repR
    split
    · rename_i hm
      have hlen : sub.length ≤ (a :: l).length := by
        have := congrArg List.length hm
        rw [List.length_take] at this; omega
      have : sub.length ≠ 0 := fun e => hs (List.length_eq_zero_iff.mp e)
      rw [List.length_append, repR_len hs h l]
      simp at hlen ⊢; omega
    · simp [repR_len hs h l 0]
  | a :: l, k + 1 => by
    show (repR sub new k l).length = _
    rw [repR_len hs h l k]; simp
noncomputable def msk (l : List Nat) (i : Nat) : List Nat := ([92, 97, 32, 35, 10].take i).foldl (fun m c => replL m [92, c] [48, 48]) l
theorem msk_len (l : List Nat) (i : Nat) : (msk l i).length = l.length := by
  unfold msk
  have : ∀ (cs : List Nat) (m : List Nat), (cs.foldl (fun m c => replL m [92, c] [48, 48]) m).length = m.length := by
    intro cs
    induction cs with
    | nil => intro m; rfl
    | cons c cs ih => intro m; rw [List.foldl_cons, ih, replL_eq (by simp), repR_len (sub := [92, c]) (new := [48, 48]) (by simp) (by simp)]; rfl
  exact this _ _
theorem spl1_len (c : Nat) (l : List Nat) : (spl1 c l).length ≤ l.length + 1 := by
  induction l with
  | nil => simp [spl1]
  | cons a l ih =>
    unfold spl1
    split
    · simp; exact ih
    · split
      · simp
      · rename_i h t e; rw [e] at ih; simp at ih ⊢; omega
theorem spl1_mem (c : Nat) (l : List Nat) : ∀ h ∈ spl1 c l, h.length ≤ l.length := by
  induction l with
  | nil => simp [spl1]
  | cons a l ih =>
    unfold spl1
    split
    · intro h hh
      rcases List.mem_cons.mp hh with rfl | hh
      · simp
      · have := ih h hh; simp; omega
    · split
      · intro h hh; simp at hh; subst hh; simp
      · rename_i h t e
        intro z hz
        rcases List.mem_cons.mp hz with rfl | hz
        · have := ih h (by rw [e]; simp); simp; omega
        · have := ih z (by rw [e]; simp [hz]); simp; omega
noncomputable def partOf (line : List Nat) : List Nat := (splitL line [35]).headD []
noncomputable def item (text part : List Nat) (place : Nat) (i : Nat) : List (List Nat) :=
  if [part.getD i 0] = [97] then [[part.getD i 0]] else if [part.getD i 0] = [48] ∧ (countL (slc part none (some (i : Int))) [48]).fmod 2 = 0 then [slc text (some ((place : Int) + i)) (some ((place : Int) + i + 2))] else []
theorem item_len (text part : List Nat) (place i : Nat) : (item text part place i).length ≤ 1 := by unfold item; split <;> (try split) <;> simp
noncomputable def cutPart (text part : List Nat) (place n : Nat) : List (List Nat) := (List.range n).flatMap (item text part place)
theorem cutPart_succ (text part : List Nat) (place n : Nat) : cutPart text part place (n + 1) = cutPart text part place n ++ item text part place n := by
  unfold cutPart; rw [List.range_succ, List.flatMap_append]; simp
theorem cutPart_len (text part : List Nat) (place n : Nat) : (cutPart text part place n).length ≤ n := by
  induction n with
  | zero => simp [cutPart]
  | succ n ih => rw [cutPart_succ, List.length_append]; have := item_len text part place n; omega
noncomputable def cutStep (text : List Nat) (s : Nat × List (List Nat)) (line : List Nat) : Nat × List (List Nat) := (s.1 + (line.length + 1), s.2 ++ cutPart text (partOf line) s.1 (partOf line).length)
noncomputable def cutAt (text : List Nat) (lines : List (List Nat)) (i : Nat) : Nat × List (List Nat) := (lines.take i).foldl (cutStep text) (0, [])
theorem cutAt_succ (text : List Nat) (lines : List (List Nat)) (i : Nat) (h : i < lines.length) : cutAt text lines (i + 1) = cutStep text (cutAt text lines i) lines[i] := by
  unfold cutAt
  rw [List.take_add_one, List.getElem?_eq_getElem h, List.foldl_append]; rfl
theorem partOf_len (line : List Nat) : (partOf line).length ≤ line.length := by
  unfold partOf
  rw [splitL_eq (by decide +kernel)]
  obtain ⟨h, t, e⟩ := spl1_ne 35 line
  rw [e]
  exact spl1_mem 35 line h (by rw [e]; simp)
theorem cutAt_len (text : List Nat) (lines : List (List Nat)) (hl : ∀ z ∈ lines, z.length ≤ 1000) (i : Nat) (h : i ≤ lines.length) : (cutAt text lines i).2.length ≤ (cutAt text lines i).1 ∧ (cutAt text lines i).1 ≤ i * 1001 := by
  induction i with
  | zero => simp [cutAt]
  | succ i ih =>
    have hi : i < lines.length := by omega
    obtain ⟨h1, h2⟩ := ih (by omega)
    rw [cutAt_succ _ _ _ hi]
    unfold cutStep
    have h3 := cutPart_len text (partOf lines[i]) (cutAt text lines i).1 (partOf lines[i]).length
    have h4 := partOf_len lines[i]
    have h5 := hl lines[i] (List.getElem_mem hi)
    simp only [List.length_append]
    constructor <;> omega
noncomputable def cutV (l : List Nat) : Option (List (List Nat)) := if slc (msk l 5) (some (-1)) none = [92] then none else some (cutAt l (splitL (msk l 5) [10]) (splitL (msk l 5) [10]).length).2
end Mine
namespace Mine
open PySem PySem.W PySem.Calls PySem.Spec PyProof.Rows
theorem rs_bounds (l : List Nat) : (rs l).1.flatten.length ≤ l.length ∧ (rs l).1.length ≤ l.length := by
  induction l using rs.induct with
  | case1 => simp [rs]
  | case2 => simp [rs]
  | case3 c h => simp [rs, h]
  | case4 d r ih => rw [rs_esc]; simp at ih ⊢; omega
  | case5 c d r h ih => rw [rs_plain _ h]; simp at ih ⊢; omega
theorem match_perr {pp : Params} {X : Cx} (hK : X.K = KK pp) : Match X (.ref CP) (.ref CP) true := by
  obtain ⟨nm, qn, N, bs, hdct, sn, sub, ab, col, dd, k0, k1, k2, k3, k5, newId, hC, rfl⟩ := kc_exc pp
  exact match_own (by rw [hK]; exact hC) (by rw [hK]; kernel_rfl) (by rw [hK]; kernel_rfl) (by rw [hK]; kernel_rfl)
theorem c_sought {pp : Params} {X : Cx} {n : Nat} {σ : S} {E : Value → S → Prop} {a dx : Addr} {l : List Nat} {i k : Nat} {d : V} {Q : V → S → Prop} (ok : Ok X (n + 5)) (hK : X.K = KK pp) (hP : X.prog = PySem.Challenge.rw_ij0062_06.row.prog) (hc : X.ctx = none) (tk : Tk σ.hp a dx l i d) (hdl : ∀ w, d ≠ .lit w) (hl : l.length ≤ 1000) (hk : k ≤ l.length)
    (q : ∀ j e, (∀ w, e ≠ .lit w) → Q (if (rs (l.drop k)).2 then .none else .tup [.lst ((kp (rs (l.drop k)).1).map .str), .str (rs (l.drop k)).1.flatten]) { σ with hp := upd σ.hp dx (.dict (tokFs l j e)) }) : Call X (.ref 151) [.ref a, .int k] σ Q E := by
  refine Call.fn' (names := ["t", "place"]) (loc0 := [("t", .ref a), ("place", .int k)]) (n := n + 4) ok hK (f_sought _) (bind2 fun v w _ => by kernel_rfl) (by kernel_rfl) (by decide +kernel) rfl rfl fun Y okY hI => ?_
  have hKY : Y.K = KK pp := hI.K.trans hK
  have hcY : Y.ctx = none := hI.ctx.trans hc
  have hPY := hI.prog.trans hP
  have t1 := tk.inst
  have t2 := tk.dict
  have hb := rs_bounds (l.drop k)
  have hdk : (l.drop k).length ≤ 1000 := by rw [List.length_drop]; omega
  conv in bodyAt _ _ => whnf
  ((try dsimp only); (with_reducible refine WXs_cons ?_))
  refine WX_Try (n := n + 4) (c := .ref CP) okY hI.env (ht_gl okY hKY (by (have hh := In.scope ‹In _ _ _›; exact kindE hh (by kernel_rfl))) (g_perr _) (by decide +kernel)) ?_
  ((try dsimp only); (with_reducible refine WXs_cons ?_))
  refine WX_Expr (hs := by intro _; rfl) okY ?_
  refine W_Method (hbase := by intro _; rfl) (hfew := by intro _; rfl) (hline := by rfl) (hplain := by intro _; rfl) okY ?_
  ((try dsimp only); ((with_reducible refine W_local (d := ?dz123) (by assumption) ?hkz123 ?hlz123 ?qz123 ?hdz123); (case hkz123 => (have hh := In.scope ‹In _ _ _›; exact kindE hh (by kernel_rfl))); (case hlz123 => ((with_reducible exact lk_hit))); (case hdz123 => decide +kernel); (try dsimp only)))
  refine getm_inst okY t1 t2 (hKY ▸ km_seek _) (by kernel_rfl) ⟨keeps_fn hKY (by kernel_rfl), ?_⟩
  refine WA_cons ?_
  ((try dsimp only); ((with_reducible refine W_local (d := ?dz124) (by assumption) ?hkz124 ?hlz124 ?qz124 ?hdz124); (case hkz124 => (have hh := In.scope ‹In _ _ _›; exact kindE hh (by kernel_rfl))); (case hlz124 => ((with_reducible refine lk_skip ?hne2z124 ?hrest2z124); (case hne2z124 => decide +kernel); (with_reducible exact lk_hit))); (case hdz124 => decide +kernel); (try dsimp only)))
  refine WA_nil ?_
  refine c_seek (n := n + 1) okY hKY hPY hcY tk hl (by omega) ?_
  have hsg := sg_rs hk
  cases hs : sg l k with
  | none =>
    rw [hs] at hsg
    dsimp only at hsg ⊢
    refine ⟨true, match_perr hKY, ?_⟩
    rw [if_pos rfl]
    intro e okm
    ((try dsimp only); (with_reducible refine WXs_cons ?_))
    ((try dsimp only); (with_reducible refine WX_Return ?_))
    ((try dsimp only); ((with_reducible refine W_none ?_); (try dsimp only)))
    have := q k d hdl
    rw [hsg] at this
    exact this
  | some je =>
    obtain ⟨j, e⟩ := je
    rw [hs] at hsg
    dsimp only at hsg ⊢
    have tk' := tk.upd j e
    ((try dsimp only); (with_reducible refine WXs_cons ?_))
    ((try dsimp only); (with_reducible refine WX_Return ?_))
    refine W_Call (hplain := by intro _; rfl) okY ?_
    refine W_gl okY hKY (by (have hh := In.scope ‹In _ _ _›; exact kindE hh (by kernel_rfl))) (g_kept _) (by decide +kernel) ?_
    refine ⟨_, rfl, keeps_fn hKY (by kernel_rfl), ?_⟩
    refine WA_cons ?_
    ((try dsimp only); ((with_reducible refine W_local (d := ?dz131) (by assumption) ?hkz131 ?hlz131 ?qz131 ?hdz131); (case hkz131 => (have hh := In.scope ‹In _ _ _›; exact kindE hh (by kernel_rfl))); (case hlz131 => ((with_reducible exact lk_hit))); (case hdz131 => decide +kernel); (try dsimp only)))
    refine WA_nil ?_
    refine c_kept (n := n) okY hKY hPY hcY tk' hl hsg (by omega) (by omega) (fun he j' e' hl' => ?_) fun he j' => ?_
    · refine ⟨true, match_perr hKY, ?_⟩
      rw [if_pos rfl]
      intro ea okm
      ((try dsimp only); (with_reducible refine WXs_cons ?_))
      ((try dsimp only); (with_reducible refine WX_Return ?_))
      ((try dsimp only); ((with_reducible refine W_none ?_); (try dsimp only)))
      have := q j' e' hl'
      rw [he] at this
      rw [upd_upd]
      exact this
    · have := q j' .none (fun _ e => by cases e)
      rw [he] at this
      rw [upd_upd]
      exact this
end Mine
namespace Mine
open PySem PySem.W PySem.Calls PySem.Spec PyProof.Rows
theorem s_let : (Str.ofString "\\a #\n").cps.toList = [92, 97, 32, 35, 10] := by decide +kernel
theorem s_00 : (Str.ofString "00").cps.toList = [48, 48] := by decide +kernel
theorem s_a : (Str.ofString "a").cps.toList = [97] := by decide +kernel
theorem s_0 : (Str.ofString "0").cps.toList = [48] := by decide +kernel
theorem msk_succ (l : List Nat) (i : Nat) (h : i < 5) : msk l (i + 1) = replL (msk l i) [92, [92, 97, 32, 35, 10].getD i 0] [48, 48] := by
  unfold msk
  rw [List.take_add_one, List.foldl_append]
  have : i = 0 ∨ i = 1 ∨ i = 2 ∨ i = 3 ∨ i = 4 := by omega
  rcases this with rfl | rfl | rfl | rfl | rfl <;> rfl
inductive CInv1 (l : List Nat) (hp : Addr → Option HO) (i : Nat) (σ' : S) : Prop
  | mk (eh : σ'.hp = hp) (em : lk σ'.loc "masked" = some (.str (msk l i))) (et : lk σ'.loc "text" = some (.str l))
inductive CInv2 (l : List Nat) (lines : List (List Nat)) (hp : Addr → Option HO) (b : Addr) (i : Nat) (σ' : S) : Prop
  | mk (eh : σ'.hp = upd hp b (.lst ((cutAt l lines i).2.map .str))) (ep : lk σ'.loc "place" = some (.int (cutAt l lines i).1)) (et : lk σ'.loc "text" = some (.str l)) (ek : lk σ'.loc "kept" = some (.ref b))
inductive CInv3 (l line part : List Nat) (acc : List (List Nat)) (place : Nat) (hp : Addr → Option HO) (b : Addr) (k : Nat) (σ' : S) : Prop
  | mk (eh : σ'.hp = upd hp b (.lst ((acc ++ cutPart l part place k).map .str))) (ep : lk σ'.loc "place" = some (.int place)) (et : lk σ'.loc "text" = some (.str l)) (ek : lk σ'.loc "kept" = some (.ref b)) (epa : lk σ'.loc "part" = some (.str part)) (eli : lk σ'.loc "line" = some (.str line))
theorem c_cut {pp : Params} {X : Cx} {n : Nat} {σ : S} {E : Value → S → Prop} {l : List Nat} {Q : V → S → Prop} (ok : Ok X (n + 1)) (hK : X.K = KK pp) (hP : X.prog = PySem.Challenge.rw_ij0062_06.row.prog) (hc : X.ctx = none) (hl : l.length ≤ 1000)
    (q : Q (match cutV l with | none => .none | some ks => .lst (ks.map .str)) σ) : Call X (.ref 158) [.str l] σ Q E := by
  refine Call.fz ?_
  refine Call.fn' (names := ["text"]) (loc0 := [("text", .str l)]) (n := n) ok hK (f_cut _) (bind1 fun v _ => by kernel_rfl) (by kernel_rfl) (by decide +kernel) rfl rfl fun Y okY hI => ?_
  have hKY : Y.K = KK pp := hI.K.trans hK
  have hcY : Y.ctx = none := hI.ctx.trans hc
  have hPY := hI.prog.trans hP
  have hml := msk_len l
  conv in bodyAt _ _ => whnf
  refine W.hide fun Q1 E1 hQ1 hE1 => ?_
  ((try dsimp only); (with_reducible refine WXs_cons ?_))
  ((try dsimp only); (with_reducible refine WX_Assign (hs := ?hsz295) (by assumption) ?hkz295 ?_); (case hsz295 => intro _; rfl); (case hkz295 => (have hh := In.scope ‹In _ _ _›; exact kindE hh (by kernel_rfl))))
  ((try dsimp only); ((with_reducible refine W_local (d := ?dz296) (by assumption) ?hkz296 ?hlz296 ?qz296 ?hdz296); (case hkz296 => (have hh := In.scope ‹In _ _ _›; exact kindE hh (by kernel_rfl))); (case hlz296 => ((with_reducible exact lk_hit))); (case hdz296 => decide +kernel); (try dsimp only)))
  ((try dsimp only); (with_reducible refine WXs_cons ?_))
  refine WX_For (hs := by intro _ _; rfl) okY hcY hI.env (by (have hh := In.scope ‹In _ _ _›; exact kindE hh (by kernel_rfl))) (CInv1 l σ.hp) ?_
  refine wit_val (W_str s_let ⟨_, _, itb_str, ⟨rfl, by show lk _ _ = some (.str l); ((with_reducible exact lk_put_self)), by ((with_reducible refine lkp_skip ?hne2z300 ?hrest2z300); (case hne2z300 => decide +kernel); (with_reducible exact lk_hit))⟩, fun i σ' wr hi inv okw => ?_, fun σ' inv => ?_⟩)
  · obtain ⟨loc, hp⟩ := σ'
    obtain ⟨eh, em, et⟩ := inv
    dsimp only at em et eh
    ((try dsimp only); (with_reducible refine WXs_cons ?_))
    ((try dsimp only); (with_reducible refine WX_Assign (hs := ?hsz302) (by assumption) ?hkz302 ?_); (case hsz302 => intro _; rfl); (case hkz302 => (have hh := In.scope ‹In _ _ _›; exact kindE hh (by kernel_rfl))))
    refine W_Repl okw (by (have hh := In.scope ‹In _ _ _›; exact kindE hh (by kernel_rfl))) (by (have hh := In.scope ‹In _ _ _›; exact kindE hh (by kernel_rfl))) (by ((with_reducible refine lkp_skip ?hne2z305 ?hrest2z305); (case hne2z305 => decide +kernel); (with_reducible assumption))) (by ((with_reducible exact lk_put_self))) s_bs s_00 (by simp) (by simp) (by rw [hml]; omega) (by simp) (by simp) (by simp) ?_ (by rfl) (by decide +kernel) (by decide +kernel)
    ((try dsimp only); ((with_reducible refine WXs_nil ?_); (try dsimp only)))
    exact ⟨eh, by rw [msk_succ l i hi]; exact lk_put_self, by ((with_reducible refine lkp_skip ?hne3z308 ?hrest3z308); (case hne3z308 => decide +kernel); (with_reducible refine lkp_skip ?hne2z308 ?hrest2z308); (case hne2z308 => decide +kernel); (with_reducible assumption))⟩
  · obtain ⟨loc, hp⟩ := σ'
    obtain ⟨rfl, em, et⟩ := inv
    dsimp only at em et
    replace em : lk loc "masked" = some (.str (msk l 5)) := em
    ((try dsimp only); ((with_reducible refine WXs_nil ?_); (try dsimp only)))
    ((try dsimp only); (with_reducible refine WXs_cons ?_))
    ((try dsimp only); (with_reducible refine WX_If ?_))
    ((try dsimp only); ((with_reducible refine WT_Compare (hm := ?hmz312) ?_); (case hmz312 => with_unfolding_all rfl)))
    refine W_SliceStr (ht := by intro _ _ _; with_unfolding_all rfl) ?_
    ((try dsimp only); ((with_reducible refine W_local (d := ?dz313) (by assumption) ?hkz313 ?hlz313 ?qz313 ?hdz313); (case hkz313 => (have hh := In.scope ‹In _ _ _›; exact kindE hh (by kernel_rfl))); (case hlz313 => ((with_reducible assumption))); (case hdz313 => decide +kernel); (try dsimp only)))
    refine WP_some ?_
    refine W_Unary ?_
    ((try dsimp only); ((with_reducible refine W_int ?_); (try dsimp only)))
    refine o_negi ?_
    refine WP_none ?_
    refine ⟨_, _, _, rfl, by rw [hml]; omega, .int _, .none, ?_⟩
    refine W_str s_bs ?_
    refine o_eqs (t_bool ?_)
    by_cases hbs : slc (msk l 5) (some (-1)) none = [92]
    · rw [if_pos (by simpa using hbs)]
      have hv : cutV l = none := by unfold cutV; rw [if_pos hbs]
      rw [hv] at q
      ((try dsimp only); (with_reducible refine WXs_cons ?_))
      ((try dsimp only); (with_reducible refine WX_Return ?_))
      ((try dsimp only); ((with_reducible refine W_none ?_); (try dsimp only)))
      exact hQ1 _ _ ⟨σ.hp, .none, fun _ _ e => e, .refl _, q⟩
    · rw [if_neg (by simpa using hbs)]
      have hv : cutV l = some (cutAt l (splitL (msk l 5) [10]) (splitL (msk l 5) [10]).length).2 := by unfold cutV; rw [if_neg hbs]
      rw [hv] at q
      dsimp only at q
      ((try dsimp only); ((with_reducible refine WXs_nil ?_); (try dsimp only)))
      ((try dsimp only); (with_reducible refine WXs_cons ?_))
      ((try dsimp only); (with_reducible refine WX_Assign (hs := ?hsz320) (by assumption) ?hkz320 ?_); (case hsz320 => intro _; rfl); (case hkz320 => (have hh := In.scope ‹In _ _ _›; exact kindE hh (by kernel_rfl))))
      refine W_ListO okY ?_
      refine WA_nil ⟨by simp, fun b hb => ?_⟩
      replace hb : σ.hp b = none := hb
      ((try dsimp only); (with_reducible refine WXs_cons ?_))
      ((try dsimp only); (with_reducible refine WX_Assign (hs := ?hsz322) (by assumption) ?hkz322 ?_); (case hsz322 => intro _; rfl); (case hkz322 => (have hh := In.scope ‹In _ _ _›; exact kindE hh (by kernel_rfl))))
      ((try dsimp only); ((with_reducible refine W_int ?_); (try dsimp only)))
      ((try dsimp only); (with_reducible refine WXs_cons ?_))
      have hsl : (splitL (msk l 5) [10]).length ≤ 1001 := by
        rw [splitL_eq (by decide +kernel)]
        have := spl1_len 10 (msk l 5)
        rw [hml] at this; omega
      have hsm : ∀ z ∈ splitL (msk l 5) [10], z.length ≤ 1000 := fun z hz => by
        rw [splitL_eq (by decide +kernel)] at hz
        have := spl1_mem 10 (msk l 5) z hz
        rw [hml] at this; omega
      generalize hlines : splitL (msk l 5) [10] = lines at q hsl hsm
      refine WX_For (hs := by intro _ _; rfl) okY hcY hI.env (by (have hh := In.scope ‹In _ _ _›; exact kindE hh (by kernel_rfl))) (CInv2 l lines σ.hp b) ?_
      refine wit_val ?_
      refine W_Method (hbase := by intro _; rfl) (hfew := by intro _; rfl) (hline := by rfl) (hplain := by intro _; rfl) okY ?_
      ((try dsimp only); ((with_reducible refine W_local (d := ?dz326) (by assumption) ?hkz326 ?hlz326 ?qz326 ?hdz326); (case hkz326 => (have hh := In.scope ‹In _ _ _›; exact kindE hh (by kernel_rfl))); (case hlz326 => ((with_reducible refine lkp_skip ?hne3z326 ?hrest3z326); (case hne3z326 => decide +kernel); (with_reducible refine lkp_skip ?hne2z326 ?hrest2z326); (case hne2z326 => decide +kernel); (with_reducible assumption))); (case hdz326 => decide +kernel); (try dsimp only)))
      refine gm_str F.slot_str_split F.type_str_split ⟨keeps_builtin, ?_⟩
      refine WA_cons ?_
      refine W_str s_nl ?_
      refine WA_nil ?_
      refine c_split (by rw [hml]; omega) (by simp) ?_
      rw [hlines]
      refine ⟨_, _, itb_lst, ⟨rfl, by show lk _ _ = some (.int 0); ((with_reducible exact lk_put_self)), by ((with_reducible refine lkp_skip ?hne3z328 ?hrest3z328); (case hne3z328 => decide +kernel); (with_reducible refine lkp_skip ?hne2z328 ?hrest2z328); (case hne2z328 => decide +kernel); (with_reducible assumption)), by ((with_reducible refine lkp_skip ?hne2z329 ?hrest2z329); (case hne2z329 => decide +kernel); (with_reducible exact lk_put_self))⟩, fun i σ' wr hi inv okw => ?_, fun σ' inv => ?_⟩
      · rw [List.length_map] at hi
        obtain ⟨loc, hp⟩ := σ'
        clear et em
        obtain ⟨eh, ep, et, ek⟩ := inv
        dsimp only at ep et ek eh
        have hli : (lines.map V.str).getD i .none = .str lines[i] := by rw [List.getD_eq_getElem?_getD]; simp [hi]
        obtain ⟨hc1, hc2⟩ := cutAt_len l lines hsm i (by omega)
        have hlm := hsm lines[i] (List.getElem_mem hi)
        have hs1 : (cutAt l lines (i + 1)).1 = (cutAt l lines i).1 + (lines[i].length + 1) := by rw [cutAt_succ _ _ _ hi]; rfl
        have hs2 : (cutAt l lines (i + 1)).2 = (cutAt l lines i).2 ++ cutPart l (partOf lines[i]) (cutAt l lines i).1 (partOf lines[i]).length := by rw [cutAt_succ _ _ _ hi]; rfl
        rw [hli]
        generalize hline : lines[i] = line at hlm hs1 hs2 ⊢
        generalize (cutAt l lines i).1 = place at *
        generalize (cutAt l lines i).2 = acc at *
        clear hli
        have hi1001 : i * 1001 ≤ 1001 * 1001 := Nat.mul_le_mul_right _ (by omega)
        have hpl := partOf_len line
        refine W.hideQ fun Q2 hQ2 => ?_
        ((try dsimp only); (with_reducible refine WXs_cons ?_))
        ((try dsimp only); (with_reducible refine WX_Assign (hs := ?hsz331) (by assumption) ?hkz331 ?_); (case hsz331 => intro _; rfl); (case hkz331 => (have hh := In.scope ‹In _ _ _›; exact kindE hh (by kernel_rfl))))
        ((try dsimp only); (with_reducible refine W_Sub ?_))
        refine W_Method (hbase := by intro _; rfl) (hfew := by intro _; rfl) (hline := by rfl) (hplain := by intro _; rfl) okw ?_
        ((try dsimp only); ((with_reducible refine W_local (d := ?dz333) (by assumption) ?hkz333 ?hlz333 ?qz333 ?hdz333); (case hkz333 => (have hh := In.scope ‹In _ _ _›; exact kindE hh (by kernel_rfl))); (case hlz333 => ((with_reducible exact lk_put_self))); (case hdz333 => decide +kernel); (try dsimp only)))
        refine gm_str F.slot_str_split F.type_str_split ⟨keeps_builtin, ?_⟩
        refine WA_cons ?_
        refine W_str s_hash ?_
        refine WA_nil ?_
        refine c_split (by omega) (by simp) ?_
        ((try dsimp only); ((with_reducible refine W_int ?_); (try dsimp only)))
        refine s_lstItem (hs := by intro _ _ _; with_unfolding_all rfl) (k := 0) (d := .str (partOf line)) (.val _) (by omega) ?_ ?_
        · unfold partOf
          rw [splitL_eq (by decide +kernel)]
          obtain ⟨h, t, e⟩ := spl1_ne 35 line
          rw [e]; rfl
        generalize partOf line = part at *
        ((try dsimp only); (with_reducible refine WXs_cons ?_))
        refine WX_ForT (hs := by intro _ _; rfl) okw hcY hI.env (by (have hh := In.scope ‹In _ _ _›; exact kindE hh (by kernel_rfl))) (by (have hh := In.scope ‹In _ _ _›; exact kindE hh (by kernel_rfl))) (CInv3 l line part acc place σ.hp b) ?_
        refine wit_enumStr okw (KB.of hKY (by (have hh := In.scope ‹In _ _ _›; exact kindE hh (by kernel_rfl))) (b_enum _) (by kernel_rfl)) (fun _ => rfl) ?_
        refine WA_cons ?_
        ((try dsimp only); ((with_reducible refine W_local (d := ?dz339) (by assumption) ?hkz339 ?hlz339 ?qz339 ?hdz339); (case hkz339 => (have hh := In.scope ‹In _ _ _›; exact kindE hh (by kernel_rfl))); (case hlz339 => ((with_reducible exact lk_put_self))); (case hdz339 => decide +kernel); (try dsimp only)))
        refine WA_nil ⟨part, rfl, ⟨by rw [eh]; simp [cutPart], by ((with_reducible refine lkp_skip ?hne3z340 ?hrest3z340); (case hne3z340 => decide +kernel); (with_reducible refine lkp_skip ?hne2z340 ?hrest2z340); (case hne2z340 => decide +kernel); (with_reducible assumption)), by ((with_reducible refine lkp_skip ?hne3z341 ?hrest3z341); (case hne3z341 => decide +kernel); (with_reducible refine lkp_skip ?hne2z341 ?hrest2z341); (case hne2z341 => decide +kernel); (with_reducible assumption)), by ((with_reducible refine lkp_skip ?hne3z342 ?hrest3z342); (case hne3z342 => decide +kernel); (with_reducible refine lkp_skip ?hne2z342 ?hrest2z342); (case hne2z342 => decide +kernel); (with_reducible assumption)), by ((with_reducible exact lk_put_self)), by ((with_reducible refine lkp_skip ?hne2z344 ?hrest2z344); (case hne2z344 => decide +kernel); (with_reducible exact lk_put_self))⟩, fun k σ' wr2 hk inv okw2 => ?_, fun σ' inv => ?_⟩
        · obtain ⟨loc2, hp⟩ := σ'
          clear ep et ek
          obtain ⟨eh, ep, et, ek, epa, eli⟩ := inv
          dsimp only at ep et ek epa eli eh
          have hpb : hp b = some (.lst ((acc ++ cutPart l part place k).map .str)) := by rw [eh, upd_self]
          have hup : ∀ o, upd hp b o = upd σ.hp b o := fun o => by rw [eh, upd_upd]
          refine W.hideQ fun Q3 hQ3 => ?_
          have hcp := cutPart_len l part place k
          have hacc : (List.map V.str (acc ++ cutPart l part place k)).length ≤ 10000000 := by rw [List.length_map, List.length_append]; omega
          ((try dsimp only); (with_reducible refine WXs_cons ?_))
          ((try dsimp only); (with_reducible refine WX_If ?_))
          ((try dsimp only); ((with_reducible refine WT_Compare (hm := ?hmz347) ?_); (case hmz347 => with_unfolding_all rfl)))
          ((try dsimp only); ((with_reducible refine W_local (d := ?dz348) (by assumption) ?hkz348 ?hlz348 ?qz348 ?hdz348); (case hkz348 => (have hh := In.scope ‹In _ _ _›; exact kindE hh (by kernel_rfl))); (case hlz348 => ((with_reducible exact lk_put_self))); (case hdz348 => decide +kernel); (try dsimp only)))
          refine W_str s_a ?_
          refine o_eqs (t_bool ?_)
          by_cases ha : [part.getD k 0] = [97]
          · rw [if_pos (by simpa using ha)]
            have hit : item l part place k = [[part.getD k 0]] := by unfold item; rw [if_pos ha]
            ((try dsimp only); (with_reducible refine WXs_cons ?_))
            refine WX_Expr (hs := by intro _; rfl) okw2 ?_
            refine W_Method (hbase := by intro _; rfl) (hfew := by intro _; rfl) (hline := by rfl) (hplain := by intro _; rfl) okw2 ?_
            ((try dsimp only); ((with_reducible refine W_local (d := ?dz350) (by assumption) ?hkz350 ?hlz350 ?qz350 ?hdz350); (case hkz350 => (have hh := In.scope ‹In _ _ _›; exact kindE hh (by kernel_rfl))); (case hlz350 => ((with_reducible refine lkp_skip ?hne3z350 ?hrest3z350); (case hne3z350 => decide +kernel); (with_reducible refine lkp_skip ?hne2z350 ?hrest2z350); (case hne2z350 => decide +kernel); (with_reducible assumption))); (case hdz350 => decide +kernel); (try dsimp only)))
            refine gm_append (ds := (acc ++ cutPart l part place k).map .str) hpb ⟨keeps_builtin, ?_⟩
            refine WA_cons ?_
            ((try dsimp only); ((with_reducible refine W_local (d := ?dz351) (by assumption) ?hkz351 ?hlz351 ?qz351 ?hdz351); (case hkz351 => (have hh := In.scope ‹In _ _ _›; exact kindE hh (by kernel_rfl))); (case hlz351 => ((with_reducible exact lk_put_self))); (case hdz351 => decide +kernel); (try dsimp only)))
            refine WA_nil ?_
            refine c_append (ds := (acc ++ cutPart l part place k).map .str) okw2 hpb hacc ?_
            ((try dsimp only); ((with_reducible refine WXs_nil ?_); (try dsimp only)))
            ((try dsimp only); ((with_reducible refine WXs_nil ?_); (try dsimp only)))
            exact hQ3 _ _ ⟨by rw [hup, cutPart_succ, hit]; simp, by ((with_reducible refine lkp_skip ?hne3z354 ?hrest3z354); (case hne3z354 => decide +kernel); (with_reducible refine lkp_skip ?hne2z354 ?hrest2z354); (case hne2z354 => decide +kernel); (with_reducible assumption)), by ((with_reducible refine lkp_skip ?hne3z355 ?hrest3z355); (case hne3z355 => decide +kernel); (with_reducible refine lkp_skip ?hne2z355 ?hrest2z355); (case hne2z355 => decide +kernel); (with_reducible assumption)), by ((with_reducible refine lkp_skip ?hne3z356 ?hrest3z356); (case hne3z356 => decide +kernel); (with_reducible refine lkp_skip ?hne2z356 ?hrest2z356); (case hne2z356 => decide +kernel); (with_reducible assumption)), by ((with_reducible refine lkp_skip ?hne3z357 ?hrest3z357); (case hne3z357 => decide +kernel); (with_reducible refine lkp_skip ?hne2z357 ?hrest2z357); (case hne2z357 => decide +kernel); (with_reducible assumption)), by ((with_reducible refine lkp_skip ?hne3z358 ?hrest3z358); (case hne3z358 => decide +kernel); (with_reducible refine lkp_skip ?hne2z358 ?hrest2z358); (case hne2z358 => decide +kernel); (with_reducible assumption))⟩
          · rw [if_neg (by simpa using ha)]
            ((try dsimp only); (with_reducible refine WXs_cons ?_))
            ((try dsimp only); (with_reducible refine WX_If ?_))
            ((try dsimp only); (with_reducible refine WT_And2 ?_))
            ((try dsimp only); ((with_reducible refine WT_Compare (hm := ?hmz362) ?_); (case hmz362 => with_unfolding_all rfl)))
            ((try dsimp only); ((with_reducible refine W_local (d := ?dz363) (by assumption) ?hkz363 ?hlz363 ?qz363 ?hdz363); (case hkz363 => (have hh := In.scope ‹In _ _ _›; exact kindE hh (by kernel_rfl))); (case hlz363 => ((with_reducible exact lk_put_self))); (case hdz363 => decide +kernel); (try dsimp only)))
            refine W_str s_0 ?_
            refine o_eqs (t_bool ?_)
            by_cases h0 : [part.getD k 0] = [48]
            · rw [if_pos (by simpa using h0)]
              ((try dsimp only); ((with_reducible refine WT_Compare (hm := ?hmz364) ?_); (case hmz364 => with_unfolding_all rfl)))
              ((try dsimp only); (with_reducible refine W_BinOp ?_))
              refine W_Method (hbase := by intro _; rfl) (hfew := by intro _; rfl) (hline := by rfl) (hplain := by intro _; rfl) okw2 ?_
              refine W_SliceStr (ht := by intro _ _ _; with_unfolding_all rfl) ?_
              ((try dsimp only); ((with_reducible refine W_local (d := ?dz366) (by assumption) ?hkz366 ?hlz366 ?qz366 ?hdz366); (case hkz366 => (have hh := In.scope ‹In _ _ _›; exact kindE hh (by kernel_rfl))); (case hlz366 => ((with_reducible refine lkp_skip ?hne3z366 ?hrest3z366); (case hne3z366 => decide +kernel); (with_reducible refine lkp_skip ?hne2z366 ?hrest2z366); (case hne2z366 => decide +kernel); (with_reducible assumption))); (case hdz366 => decide +kernel); (try dsimp only)))
              refine WP_none ?_
              refine WP_some ?_
              ((try dsimp only); ((with_reducible refine W_local (d := ?dz367) (by assumption) ?hkz367 ?hlz367 ?qz367 ?hdz367); (case hkz367 => (have hh := In.scope ‹In _ _ _›; exact kindE hh (by kernel_rfl))); (case hlz367 => ((with_reducible refine lkp_skip ?hne2z367 ?hrest2z367); (case hne2z367 => decide +kernel); (with_reducible exact lk_put_self))); (case hdz367 => decide +kernel); (try dsimp only)))
              refine ⟨_, _, _, rfl, by omega, .none, .int _, ?_⟩
              refine gm_str F.slot_str_count F.type_str_count ⟨keeps_builtin, ?_⟩
              refine WA_cons ?_
              refine W_str s_0 ?_
              refine WA_nil ?_
              refine c_count ?_
              ((try dsimp only); ((with_reducible refine W_int ?_); (try dsimp only)))
              refine o_modi (by decide) ?_
              ((try dsimp only); ((with_reducible refine W_int ?_); (try dsimp only)))
              refine o_eqi (t_bool ?_)
              by_cases hcn : (countL (slc part none (some (k : Int))) [48]).fmod 2 = 0
              · rw [if_pos (by simpa using hcn)]
                have hit : item l part place k = [slc l (some ((place : Int) + k)) (some ((place : Int) + k + 2))] := by unfold item; rw [if_neg ha, if_pos ⟨h0, hcn⟩]
                ((try dsimp only); (with_reducible refine WXs_cons ?_))
                refine WX_Expr (hs := by intro _; rfl) okw2 ?_
                refine W_Method (hbase := by intro _; rfl) (hfew := by intro _; rfl) (hline := by rfl) (hplain := by intro _; rfl) okw2 ?_
                ((try dsimp only); ((with_reducible refine W_local (d := ?dz371) (by assumption) ?hkz371 ?hlz371 ?qz371 ?hdz371); (case hkz371 => (have hh := In.scope ‹In _ _ _›; exact kindE hh (by kernel_rfl))); (case hlz371 => ((with_reducible refine lkp_skip ?hne3z371 ?hrest3z371); (case hne3z371 => decide +kernel); (with_reducible refine lkp_skip ?hne2z371 ?hrest2z371); (case hne2z371 => decide +kernel); (with_reducible assumption))); (case hdz371 => decide +kernel); (try dsimp only)))
                refine gm_append (ds := (acc ++ cutPart l part place k).map .str) hpb ⟨keeps_builtin, ?_⟩
                refine WA_cons ?_
                refine W_SliceStr (ht := by intro _ _ _; with_unfolding_all rfl) ?_
                ((try dsimp only); ((with_reducible refine W_local (d := ?dz372) (by assumption) ?hkz372 ?hlz372 ?qz372 ?hdz372); (case hkz372 => (have hh := In.scope ‹In _ _ _›; exact kindE hh (by kernel_rfl))); (case hlz372 => ((with_reducible refine lkp_skip ?hne3z372 ?hrest3z372); (case hne3z372 => decide +kernel); (with_reducible refine lkp_skip ?hne2z372 ?hrest2z372); (case hne2z372 => decide +kernel); (with_reducible assumption))); (case hdz372 => decide +kernel); (try dsimp only)))
                refine WP_some ?_
                ((try dsimp only); (with_reducible refine W_BinOp ?_))
                ((try dsimp only); ((with_reducible refine W_local (d := ?dz374) (by assumption) ?hkz374 ?hlz374 ?qz374 ?hdz374); (case hkz374 => (have hh := In.scope ‹In _ _ _›; exact kindE hh (by kernel_rfl))); (case hlz374 => ((with_reducible refine lkp_skip ?hne3z374 ?hrest3z374); (case hne3z374 => decide +kernel); (with_reducible refine lkp_skip ?hne2z374 ?hrest2z374); (case hne2z374 => decide +kernel); (with_reducible assumption))); (case hdz374 => decide +kernel); (try dsimp only)))
                ((try dsimp only); ((with_reducible refine W_local (d := ?dz375) (by assumption) ?hkz375 ?hlz375 ?qz375 ?hdz375); (case hkz375 => (have hh := In.scope ‹In _ _ _›; exact kindE hh (by kernel_rfl))); (case hlz375 => ((with_reducible refine lkp_skip ?hne2z375 ?hrest2z375); (case hne2z375 => decide +kernel); (with_reducible exact lk_put_self))); (case hdz375 => decide +kernel); (try dsimp only)))
                refine o_addi ?_
                refine WP_some ?_
                ((try dsimp only); (with_reducible refine W_BinOp ?_))
                ((try dsimp only); (with_reducible refine W_BinOp ?_))
                ((try dsimp only); ((with_reducible refine W_local (d := ?dz378) (by assumption) ?hkz378 ?hlz378 ?qz378 ?hdz378); (case hkz378 => (have hh := In.scope ‹In _ _ _›; exact kindE hh (by kernel_rfl))); (case hlz378 => ((with_reducible refine lkp_skip ?hne3z378 ?hrest3z378); (case hne3z378 => decide +kernel); (with_reducible refine lkp_skip ?hne2z378 ?hrest2z378); (case hne2z378 => decide +kernel); (with_reducible assumption))); (case hdz378 => decide +kernel); (try dsimp only)))
                ((try dsimp only); ((with_reducible refine W_local (d := ?dz379) (by assumption) ?hkz379 ?hlz379 ?qz379 ?hdz379); (case hkz379 => (have hh := In.scope ‹In _ _ _›; exact kindE hh (by kernel_rfl))); (case hlz379 => ((with_reducible refine lkp_skip ?hne2z379 ?hrest2z379); (case hne2z379 => decide +kernel); (with_reducible exact lk_put_self))); (case hdz379 => decide +kernel); (try dsimp only)))
                refine o_addi ?_
                ((try dsimp only); ((with_reducible refine W_int ?_); (try dsimp only)))
                refine o_addi ?_
                refine ⟨_, _, _, rfl, by omega, .int _, .int _, ?_⟩
                refine WA_nil ?_
                refine c_append (ds := (acc ++ cutPart l part place k).map .str) okw2 hpb hacc ?_
                ((try dsimp only); ((with_reducible refine WXs_nil ?_); (try dsimp only)))
                ((try dsimp only); ((with_reducible refine WXs_nil ?_); (try dsimp only)))
                ((try dsimp only); ((with_reducible refine WXs_nil ?_); (try dsimp only)))
                exact hQ3 _ _ ⟨by rw [hup, cutPart_succ, hit]; simp, by ((with_reducible refine lkp_skip ?hne3z384 ?hrest3z384); (case hne3z384 => decide +kernel); (with_reducible refine lkp_skip ?hne2z384 ?hrest2z384); (case hne2z384 => decide +kernel); (with_reducible assumption)), by ((with_reducible refine lkp_skip ?hne3z385 ?hrest3z385); (case hne3z385 => decide +kernel); (with_reducible refine lkp_skip ?hne2z385 ?hrest2z385); (case hne2z385 => decide +kernel); (with_reducible assumption)), by ((with_reducible refine lkp_skip ?hne3z386 ?hrest3z386); (case hne3z386 => decide +kernel); (with_reducible refine lkp_skip ?hne2z386 ?hrest2z386); (case hne2z386 => decide +kernel); (with_reducible assumption)), by ((with_reducible refine lkp_skip ?hne3z387 ?hrest3z387); (case hne3z387 => decide +kernel); (with_reducible refine lkp_skip ?hne2z387 ?hrest2z387); (case hne2z387 => decide +kernel); (with_reducible assumption)), by ((with_reducible refine lkp_skip ?hne3z388 ?hrest3z388); (case hne3z388 => decide +kernel); (with_reducible refine lkp_skip ?hne2z388 ?hrest2z388); (case hne2z388 => decide +kernel); (with_reducible assumption))⟩
              · rw [if_neg (by simpa using hcn)]
                have hit : item l part place k = [] := by unfold item; rw [if_neg ha, if_neg (fun h => hcn h.2)]
                ((try dsimp only); ((with_reducible refine WXs_nil ?_); (try dsimp only)))
                ((try dsimp only); ((with_reducible refine WXs_nil ?_); (try dsimp only)))
                ((try dsimp only); ((with_reducible refine WXs_nil ?_); (try dsimp only)))
                exact hQ3 _ _ ⟨by rw [eh, cutPart_succ, hit]; simp, by ((with_reducible refine lkp_skip ?hne3z392 ?hrest3z392); (case hne3z392 => decide +kernel); (with_reducible refine lkp_skip ?hne2z392 ?hrest2z392); (case hne2z392 => decide +kernel); (with_reducible assumption)), by ((with_reducible refine lkp_skip ?hne3z393 ?hrest3z393); (case hne3z393 => decide +kernel); (with_reducible refine lkp_skip ?hne2z393 ?hrest2z393); (case hne2z393 => decide +kernel); (with_reducible assumption)), by ((with_reducible refine lkp_skip ?hne3z394 ?hrest3z394); (case hne3z394 => decide +kernel); (with_reducible refine lkp_skip ?hne2z394 ?hrest2z394); (case hne2z394 => decide +kernel); (with_reducible assumption)), by ((with_reducible refine lkp_skip ?hne3z395 ?hrest3z395); (case hne3z395 => decide +kernel); (with_reducible refine lkp_skip ?hne2z395 ?hrest2z395); (case hne2z395 => decide +kernel); (with_reducible assumption)), by ((with_reducible refine lkp_skip ?hne3z396 ?hrest3z396); (case hne3z396 => decide +kernel); (with_reducible refine lkp_skip ?hne2z396 ?hrest2z396); (case hne2z396 => decide +kernel); (with_reducible assumption))⟩
            · rw [if_neg (by simpa using h0), if_neg (by decide)]
              have hit : item l part place k = [] := by unfold item; rw [if_neg ha, if_neg (fun h => h0 h.1)]
              ((try dsimp only); ((with_reducible refine WXs_nil ?_); (try dsimp only)))
              ((try dsimp only); ((with_reducible refine WXs_nil ?_); (try dsimp only)))
              ((try dsimp only); ((with_reducible refine WXs_nil ?_); (try dsimp only)))
              exact hQ3 _ _ ⟨by rw [eh, cutPart_succ, hit]; simp, by ((with_reducible refine lkp_skip ?hne3z400 ?hrest3z400); (case hne3z400 => decide +kernel); (with_reducible refine lkp_skip ?hne2z400 ?hrest2z400); (case hne2z400 => decide +kernel); (with_reducible assumption)), by ((with_reducible refine lkp_skip ?hne3z401 ?hrest3z401); (case hne3z401 => decide +kernel); (with_reducible refine lkp_skip ?hne2z401 ?hrest2z401); (case hne2z401 => decide +kernel); (with_reducible assumption)), by ((with_reducible refine lkp_skip ?hne3z402 ?hrest3z402); (case hne3z402 => decide +kernel); (with_reducible refine lkp_skip ?hne2z402 ?hrest2z402); (case hne2z402 => decide +kernel); (with_reducible assumption)), by ((with_reducible refine lkp_skip ?hne3z403 ?hrest3z403); (case hne3z403 => decide +kernel); (with_reducible refine lkp_skip ?hne2z403 ?hrest2z403); (case hne2z403 => decide +kernel); (with_reducible assumption)), by ((with_reducible refine lkp_skip ?hne3z404 ?hrest3z404); (case hne3z404 => decide +kernel); (with_reducible refine lkp_skip ?hne2z404 ?hrest2z404); (case hne2z404 => decide +kernel); (with_reducible assumption))⟩
        · obtain ⟨loc2, hp⟩ := σ'
          clear ep et ek
          obtain ⟨eh, ep, et, ek, epa, eli⟩ := inv
          dsimp only at ep et ek epa eli eh
          ((try dsimp only); ((with_reducible refine WXs_nil ?_); (try dsimp only)))
          ((try dsimp only); (with_reducible refine WXs_cons ?_))
          ((try dsimp only); (with_reducible refine WX_Aug (d := ?dz407) (by assumption) ?hkz407 ?hlz407 ?_); (case hkz407 => (have hh := In.scope ‹In _ _ _›; exact kindE hh (by kernel_rfl))); (case hlz407 => ((with_reducible assumption))))
          ((try dsimp only); (with_reducible refine W_BinOp ?_))
          refine W_Call (hplain := by intro _; rfl) okw ?_
          refine W_bi (v := .builtin "len") okw hKY (by (have hh := In.scope ‹In _ _ _›; exact kindE hh (by kernel_rfl))) (b_len _) (by kernel_rfl) (by decide +kernel) (by decide +kernel) ?_
          refine ⟨_, rfl, keeps_builtin, ?_⟩
          refine WA_cons ?_
          ((try dsimp only); ((with_reducible refine W_local (d := ?dz410) (by assumption) ?hkz410 ?hlz410 ?qz410 ?hdz410); (case hkz410 => (have hh := In.scope ‹In _ _ _›; exact kindE hh (by kernel_rfl))); (case hlz410 => ((with_reducible assumption))); (case hdz410 => decide +kernel); (try dsimp only)))
          refine WA_nil ?_
          refine c_lens (by omega) ?_
          ((try dsimp only); ((with_reducible refine W_int ?_); (try dsimp only)))
          refine o_addi ?_
          refine o_iaddi ?_
          ((try dsimp only); ((with_reducible refine WXs_nil ?_); (try dsimp only)))
          exact hQ2 _ _ ⟨by rw [hs2]; exact eh, by rw [hs1]; show lk _ _ = some (.int ((place : Int) + ((line.length : Int) + 1))); ((with_reducible exact lk_put_self)), by ((with_reducible refine lkp_skip ?hne2z414 ?hrest2z414); (case hne2z414 => decide +kernel); (with_reducible assumption)), by ((with_reducible refine lkp_skip ?hne2z415 ?hrest2z415); (case hne2z415 => decide +kernel); (with_reducible assumption))⟩
      · obtain ⟨loc2, hp⟩ := σ'
        clear et em
        obtain ⟨eh, ep, et, ek⟩ := inv
        dsimp only at ep et ek eh
        rw [List.length_map] at eh
        ((try dsimp only); ((with_reducible refine WXs_nil ?_); (try dsimp only)))
        ((try dsimp only); (with_reducible refine WXs_cons ?_))
        ((try dsimp only); (with_reducible refine WX_Return ?_))
        ((try dsimp only); ((with_reducible refine W_local (d := ?dz419) (by assumption) ?hkz419 ?hlz419 ?qz419 ?hdz419); (case hkz419 => (have hh := In.scope ‹In _ _ _›; exact kindE hh (by kernel_rfl))); (case hlz419 => ((with_reducible assumption))); (case hdz419 => decide +kernel); (try dsimp only)))
        exact hQ1 _ _ ⟨σ.hp, .lst ((cutAt l lines lines.length).2.map .str), fun c o e => by show hp c = some o; rw [eh, upd_ne (fun z => by rw [z, hb] at e; cases e)]; exact e, .own (by show hp b = _; rw [eh, upd_self]) hb, q⟩
end Mine
namespace Mine
open PySem PySem.W PySem.Calls PySem.Spec PyProof.Rows
noncomputable def alph : List Nat := [97, 32, 35, 10, 92]
noncomputable def mT (T : List Nat) : List Nat → List Nat
  | [] => []
  | [c] => [c]
  | c :: d :: r => if c = 92 then (if d ∈ T then 48 :: 48 :: mT T r else 92 :: d :: mT T r) else c :: mT T (d :: r)
theorem mT_one (T : List Nat) (c : Nat) : mT T [c] = [c] := rfl
theorem mT_esc (T : List Nat) (d : Nat) (r : List Nat) : mT T (92 :: d :: r) = if d ∈ T then 48 :: 48 :: mT T r else 92 :: d :: mT T r := by rw [mT]; simp
theorem mT_plain (T : List Nat) {c : Nat} (r : List Nat) (h : c ≠ 92) : mT T (c :: r) = c :: mT T r := by
  cases r with
  | nil => rfl
  | cons d r => rw [mT]; simp [h]
theorem mT_none (s : List Nat) : mT [] s = s := by
  induction s using rs.induct with
  | case1 => rfl
  | case2 => rfl
  | case3 c h => rfl
  | case4 d r ih => rw [mT_esc]; simp [ih]
  | case5 c d r h ih => rw [mT_plain _ _ h, ih]
theorem rep_skip {c a : Nat} {l : List Nat} (h : a ≠ 92) : repR [92, c] [48, 48] 0 (a :: l) = a :: repR [92, c] [48, 48] 0 l := by
  rw [repR, if_neg]
  intro e
  simp only [List.length_cons, List.length_nil, List.take_succ_cons] at e
  injection e with e1 e2
  exact h e1
theorem rep_hit {c : Nat} {l : List Nat} : repR [92, c] [48, 48] 0 (92 :: c :: l) = 48 :: 48 :: repR [92, c] [48, 48] 0 l := by
  rw [repR, if_pos (by simp)]
  rfl
theorem rep_miss {c d : Nat} {l : List Nat} (h : d ≠ c) (h2 : d ≠ 92) : repR [92, c] [48, 48] 0 (92 :: d :: l) = 92 :: d :: repR [92, c] [48, 48] 0 l := by
  rw [repR, if_neg, rep_skip h2]
  intro e
  simp only [List.length_cons, List.length_nil, List.take_succ_cons] at e
  injection e with e1 e2
  injection e2 with e3 e4
  exact h e3
theorem mT_step (T : List Nat) (c : Nat) (hT : c = 92 ∨ 92 ∈ T) (s : List Nat) : repR [92, c] [48, 48] 0 (mT T s) = mT (c :: T) s := by
  induction s using rs.induct with
  | case1 => rfl
  | case2 => simp [mT_one, repR]
  | case3 a h => rw [mT_one, mT_one, rep_skip h]; rfl
  | case4 d r ih =>
    rw [mT_esc, mT_esc]
    by_cases hd : d ∈ T
    · rw [if_pos hd, if_pos (by simp [hd]), rep_skip (by decide), rep_skip (by decide), ih]
    · rw [if_neg hd]
      by_cases hc : d = c
      · subst hc
        rw [if_pos (by simp), rep_hit, ih]
      · have h92 : d ≠ 92 := by
          rintro rfl
          rcases hT with e | e
          · exact hc e.symm
          · exact hd e
        rw [if_neg (by simp [hd, hc]), rep_miss hc h92, ih]
  | case5 a d r h ih => rw [mT_plain _ _ h, mT_plain _ _ h, rep_skip h, ih]
theorem msk_all (s : List Nat) : msk s 5 = mT [10, 35, 32, 97, 92] s := by
  show replL (replL (replL (replL (replL s [92, 92] [48, 48]) [92, 97] [48, 48]) [92, 32] [48, 48]) [92, 35] [48, 48]) [92, 10] [48, 48] = _
  simp only [replL_eq (show ([92, 92] : List Nat) ≠ [] by simp), replL_eq (show ([92, 97] : List Nat) ≠ [] by simp), replL_eq (show ([92, 32] : List Nat) ≠ [] by simp), replL_eq (show ([92, 35] : List Nat) ≠ [] by simp), replL_eq (show ([92, 10] : List Nat) ≠ [] by simp)]
  conv => lhs; rw [← mT_none s]
  rw [mT_step [] 92 (.inl rfl), mT_step [92] 97 (.inr (by simp)), mT_step [97, 92] 32 (.inr (by simp)), mT_step [32, 97, 92] 35 (.inr (by simp)), mT_step [35, 32, 97, 92] 10 (.inr (by simp))]
noncomputable def mS (g : List (List Nat)) : List Nat := (g.map fun z => if z.length = 2 then [48, 48] else z).flatten
theorem mT_signs (s : List Nat) (h : ∀ c ∈ s, c ∈ alph) : mT [10, 35, 32, 97, 92] s = mS (rs s).1 ++ (if (rs s).2 then [92] else []) := by
  induction s using rs.induct with
  | case1 => rfl
  | case2 => rfl
  | case3 c hc => simp [rs, hc, mS, mT_one]
  | case4 d r ih =>
    rw [rs_esc, mT_esc, if_pos, ih (fun c hc => h c (by simp [hc]))]
    · simp [mS]
    · have := h d (by simp)
      simp only [alph, List.mem_cons, List.not_mem_nil, or_false] at this
      rcases this with rfl | rfl | rfl | rfl | rfl <;> decide
  | case5 c d r hc ih =>
    rw [rs_plain _ hc, mT_plain _ _ hc, ih (fun c hc => h c (by simp [List.mem_cons.mp hc]))]
    simp [mS]
noncomputable def Sg (z : List Nat) : Prop := z = [97] ∨ z = [32] ∨ z = [35] ∨ z = [10] ∨ ∃ d, z = [92, d]
theorem rs_sg (s : List Nat) (h : ∀ c ∈ s, c ∈ alph) : ∀ z ∈ (rs s).1, Sg z := by
  induction s using rs.induct with
  | case1 => simp [rs]
  | case2 => simp [rs]
  | case3 c hc =>
    simp [rs, hc]
    have := h c (by simp)
    simp only [alph, List.mem_cons, List.not_mem_nil, or_false] at this
    rcases this with rfl | rfl | rfl | rfl | rfl <;> simp [Sg] at hc ⊢
  | case4 d r ih =>
    rw [rs_esc]
    intro z hz
    rcases List.mem_cons.mp hz with rfl | hz
    · exact .inr (.inr (.inr (.inr ⟨d, rfl⟩)))
    · exact ih (fun c hc => h c (by simp [hc])) z hz
  | case5 c d r hc ih =>
    rw [rs_plain _ hc]
    intro z hz
    rcases List.mem_cons.mp hz with rfl | hz
    · have := h c (by simp)
      unfold Sg
      simp [alph] at this ⊢
      omega
    · exact ih (fun c hc => h c (by simp [List.mem_cons.mp hc])) z hz
theorem mS_no92 (g : List (List Nat)) (h : ∀ z ∈ g, Sg z) : 92 ∉ mS g := by
  intro hm
  unfold mS at hm
  obtain ⟨l, hl, hm⟩ := List.mem_flatten.mp hm
  obtain ⟨z, hz, rfl⟩ := List.mem_map.mp hl
  rcases h z hz with rfl | rfl | rfl | rfl | ⟨d, rfl⟩ <;> simp at hm
theorem slc_last (l : List Nat) : slc l (some (-1)) none = l.drop (l.length - 1) := by
  unfold slc kms_lo kms_hi
  dsimp only
  rw [if_pos (by omega), List.take_of_length_le (by simp)]
  rfl
theorem slc_to {α : Type} (l : List α) (k : Nat) : slc l none (some (k : Int)) = l.take k := by
  unfold slc kms_lo kms_hi
  dsimp only
  rw [if_neg (by omega)]
  simp
theorem slc_two (l : List Nat) (k : Nat) : slc l (some (k : Int)) (some ((k : Int) + 2)) = (l.drop k).take 2 := by
  unfold slc kms_lo kms_hi
  dsimp only
  rw [if_neg (by omega), if_neg (by omega)]
  rw [show ((k : Int) + 2).toNat = k + 2 from by omega, show (k : Int).toNat = k from by omega]
  by_cases h : k ≤ l.length
  · rw [Nat.min_eq_left h]
    rcases Nat.lt_or_ge l.length (k + 2) with h2 | h2
    · rw [Nat.min_eq_right (by omega), List.take_of_length_le (by simp), List.take_of_length_le (by simp; omega)]
    · rw [Nat.min_eq_left h2]; congr 1; omega
  · rw [List.drop_eq_nil_of_le (show l.length ≤ k by omega), List.drop_eq_nil_of_le (by omega)]
    simp
theorem partOf_nil : partOf [] = [] := by
  unfold partOf
  rw [splitL_eq (by decide +kernel)]; rfl
theorem partOf_hash (l : List Nat) : partOf (35 :: l) = [] := by
  unfold partOf
  rw [splitL_eq (by decide +kernel)]; simp [spl1]
theorem partOf_cons {c : Nat} (l : List Nat) (h : c ≠ 35) : partOf (c :: l) = c :: partOf l := by
  unfold partOf
  rw [splitL_eq (by decide +kernel), splitL_eq (by decide +kernel)]
  obtain ⟨z, t, e⟩ := spl1_ne 35 l
  simp only [spl1, if_neg h, e]; rfl
theorem cut_par (c : Nat) (k : Nat) : ((k : Int).fmod 2 = 0) ↔ k % 2 = 0 := by
  rw [Int.fmod_eq_emod_of_nonneg _ (by omega)]; omega
theorem item_eq (text part : List Nat) (p i : Nat) : item text part p i = if part.getD i 0 = 97 then [[97]] else if part.getD i 0 = 48 ∧ (part.take i).count 48 % 2 = 0 then [(text.drop (p + i)).take 2] else [] := by
  unfold item
  rw [slc_to, countL_eq, show ((p : Int) + (i : Int)) = ((p + i : Nat) : Int) from by omega, slc_two]
  by_cases h : part.getD i 0 = 97
  · rw [if_pos h, if_pos (by rw [h]), h]
  · rw [if_neg h, if_neg (by simpa using h)]
    congr 1
    rw [cut_par 0]
    simp
theorem item_sh1 {c : Nat} (text part : List Nat) (p i : Nat) (h : c ≠ 48) : item text (c :: part) p (i + 1) = item text part (p + 1) i := by
  rw [item_eq, item_eq]
  simp only [List.getD_cons_succ, List.take_succ_cons, List.count_cons, show (c == 48) = false from by simpa using h, show p + (i + 1) = p + 1 + i from by omega]
  simp
theorem item_sh2 (text part : List Nat) (p i : Nat) : item text (48 :: 48 :: part) p (i + 2) = item text part (p + 2) i := by
  rw [item_eq, item_eq]
  simp only [List.getD_cons_succ, List.take_succ_cons, List.count_cons, show p + (i + 2) = p + 2 + i from by omega]
  simp only [beq_self_eq_true, if_true, show ∀ n : Nat, (n + 1 + 1) % 2 = n % 2 from fun n => by omega]
theorem cutPart_sh1 {c : Nat} (text part : List Nat) (p : Nat) (h : c ≠ 48) : cutPart text (c :: part) p (part.length + 1) = item text (c :: part) p 0 ++ cutPart text part (p + 1) part.length := by
  unfold cutPart
  rw [List.range_succ_eq_map, List.flatMap_cons, List.flatMap_map]
  congr 1
  congr 1
  funext i
  exact item_sh1 text part p i h
theorem cutPart_sh2 (text part : List Nat) (p : Nat) : cutPart text (48 :: 48 :: part) p (part.length + 2) = (text.drop p).take 2 :: cutPart text part (p + 2) part.length := by
  unfold cutPart
  rw [List.range_succ_eq_map, List.flatMap_cons, List.flatMap_map, List.range_succ_eq_map, List.flatMap_cons, List.flatMap_map, item_eq, item_eq]
  simp
  congr 1
  funext i
  exact item_sh2 text part p i
noncomputable def cutFrom (text : List Nat) : List (List Nat) → Nat → List (List Nat)
  | [], _ => []
  | l :: r, p => cutPart text (partOf l) p (partOf l).length ++ cutFrom text r (p + (l.length + 1))
theorem cutAt_from (text : List Nat) (lines : List (List Nat)) : (cutAt text lines lines.length).2 = cutFrom text lines 0 := by
  unfold cutAt
  rw [List.take_length]
  have : ∀ (ls : List (List Nat)) (p : Nat) (a : List (List Nat)), (ls.foldl (cutStep text) (p, a)).2 = a ++ cutFrom text ls p := by
    intro ls
    induction ls with
    | nil => intro p a; simp [cutFrom]
    | cons l r ih => intro p a; rw [List.foldl_cons]; show (List.foldl (cutStep text) (p + (l.length + 1), a ++ cutPart text (partOf l) p (partOf l).length) r).2 = _; rw [ih]; simp [cutFrom]
  simpa using this lines 0 []
theorem from_cons {c : Nat} (text h : List Nat) (t : List (List Nat)) (p : Nat) (h1 : c ≠ 48) (h2 : c ≠ 35) : cutFrom text ((c :: h) :: t) p = (if c = 97 then [[97]] else []) ++ cutFrom text (h :: t) (p + 1) := by
  unfold cutFrom
  rw [partOf_cons _ h2, List.length_cons, cutPart_sh1 _ _ _ h1, item_eq]
  simp [h1, Nat.add_assoc, Nat.add_comm, Nat.add_left_comm]
theorem from_two (text h : List Nat) (t : List (List Nat)) (p : Nat) : cutFrom text ((48 :: 48 :: h) :: t) p = (text.drop p).take 2 :: cutFrom text (h :: t) (p + 2) := by
  unfold cutFrom
  rw [partOf_cons _ (by decide), partOf_cons _ (by decide), List.length_cons, List.length_cons, cutPart_sh2]
  simp [Nat.add_assoc, Nat.add_comm, Nat.add_left_comm]
theorem from_hash (text h : List Nat) (t : List (List Nat)) (p : Nat) : cutFrom text ((35 :: h) :: t) p = cutFrom text t (p + (h.length + 2)) := by
  unfold cutFrom
  rw [partOf_hash]
  cases t <;> simp [cutPart, cutFrom, Nat.add_assoc]
theorem from_nil (text : List Nat) (t : List (List Nat)) (p : Nat) : cutFrom text ([] :: t) p = cutFrom text t (p + 1) := by
  unfold cutFrom
  rw [partOf_nil]
  cases t <;> simp [cutPart, cutFrom]
theorem mS_cons (z : List Nat) (g : List (List Nat)) : mS (z :: g) = (if z.length = 2 then [48, 48] else z) ++ mS g := by simp [mS]
theorem spl_hit (c : Nat) (l : List Nat) : spl1 c (c :: l) = [] :: spl1 c l := by simp [spl1]
theorem spl_miss {c d : Nat} {l h : List Nat} {t : List (List Nat)} (hd : d ≠ c) (e : spl1 c l = h :: t) : spl1 c (d :: l) = (d :: h) :: t := by simp [spl1, hd, e]
theorem skp_lines (text : List Nat) (g : List (List Nat)) (h : ∀ z ∈ g, Sg z) (p : Nat) (hp : text.drop p = g.flatten) (hd : List Nat) (t : List (List Nat)) (e : spl1 10 (mS g) = hd :: t) :
    (t = [] ∧ skp g = []) ∨ (t = spl1 10 (mS (skp g)) ∧ text.drop (p + (hd.length + 1)) = (skp g).flatten) := by
  induction g generalizing p hd t with
  | nil =>
    simp [mS, spl1] at e
    exact .inl ⟨e.2, rfl⟩
  | cons z g ih =>
    have hz := h z (by simp)
    have hg : ∀ z ∈ g, Sg z := fun y hy => h y (by simp [hy])
    obtain ⟨h', t', e'⟩ := spl1_ne 10 (mS g)
    have one : ∀ c : Nat, z = [c] → c ≠ 10 → (t = [] ∧ skp (z :: g) = []) ∨ (t = spl1 10 (mS (skp (z :: g))) ∧ text.drop (p + (hd.length + 1)) = (skp (z :: g)).flatten) := by
      rintro c rfl hc
      have e2 : spl1 10 (mS ([c] :: g)) = (c :: h') :: t' := by rw [mS_cons]; exact spl_miss hc e'
      rw [e2] at e
      injection e with e3 e4
      subst e3 e4
      have hp' : text.drop (p + 1) = g.flatten := by rw [← List.drop_drop, hp]; rfl
      have hs : skp ([c] :: g) = skp g := by rw [skp, if_neg (by simpa using hc)]
      rw [hs]
      rcases ih hg (p + 1) hp' h' t' e' with q | ⟨q, r⟩
      · exact .inl q
      · exact .inr ⟨q, by rw [← r]; congr 1; simp; omega⟩
    rcases hz with hz | hz | hz | hz | ⟨d, hz⟩
    · exact one 97 hz (by decide)
    · exact one 32 hz (by decide)
    · exact one 35 hz (by decide)
    · subst hz
      right
      rw [mS_cons] at e
      have e2 : spl1 10 (10 :: mS g) = hd :: t := e
      rw [spl_hit] at e2
      injection e2 with e3 e4
      subst e3 e4
      have hs : skp ([10] :: g) = g := by rw [skp, if_pos rfl]
      rw [hs]
      exact ⟨rfl, by rw [← List.drop_drop, hp]; rfl⟩
    · subst hz
      have e2 : spl1 10 (mS ([92, d] :: g)) = (48 :: 48 :: h') :: t' := by rw [mS_cons]; exact spl_miss (by decide) (spl_miss (by decide) e')
      rw [e2] at e
      injection e with e3 e4
      subst e3 e4
      have hp' : text.drop (p + 2) = g.flatten := by rw [← List.drop_drop, hp]; rfl
      have hs : skp ([92, d] :: g) = skp g := by rw [skp, if_neg (by simp)]
      rw [hs]
      rcases ih hg (p + 2) hp' h' t' e' with q | ⟨q, r⟩
      · exact .inl q
      · exact .inr ⟨q, by rw [← r]; congr 1; simp; omega⟩
theorem cut_kp (text : List Nat) : ∀ (n : Nat) (g : List (List Nat)), g.length ≤ n → (∀ z ∈ g, Sg z) → ∀ p, text.drop p = g.flatten → cutFrom text (spl1 10 (mS g)) p = kp g
  | n, [], _, _, p, _ => by
    rw [kp]
    show cutFrom text (spl1 10 []) p = []
    simp [spl1, from_nil, cutFrom]
  | 0, z :: g, hn, _, _, _ => by simp at hn
  | n + 1, z :: g, hn, h, p, hp => by
    have hz := h z (by simp)
    have hg : ∀ z ∈ g, Sg z := fun y hy => h y (by simp [hy])
    simp only [List.length_cons] at hn
    obtain ⟨h', t', e'⟩ := spl1_ne 10 (mS g)
    have ih := fun p hp => cut_kp text n g (by omega) hg p hp
    rcases hz with hz | hz | hz | hz | ⟨d, hz⟩
    · subst hz
      have hp' : text.drop (p + 1) = g.flatten := by rw [← List.drop_drop, hp]; rfl
      rw [mS_cons]
      show cutFrom text (spl1 10 (97 :: mS g)) p = _
      rw [spl_miss (by decide) e', from_cons _ _ _ _ (by decide) (by decide), ← e', ih _ hp']
      rw [kp.eq_2]; simp
    · subst hz
      have hp' : text.drop (p + 1) = g.flatten := by rw [← List.drop_drop, hp]; rfl
      rw [mS_cons]
      show cutFrom text (spl1 10 (32 :: mS g)) p = _
      rw [spl_miss (by decide) e', from_cons _ _ _ _ (by decide) (by decide), ← e', ih _ hp']
      rw [kp.eq_2]; simp
    · subst hz
      have hp' : text.drop (p + 1) = g.flatten := by rw [← List.drop_drop, hp]; rfl
      rw [mS_cons]
      show cutFrom text (spl1 10 (35 :: mS g)) p = _
      rw [spl_miss (by decide) e', from_hash, kp.eq_2, if_pos rfl]
      rcases skp_lines text g hg (p + 1) hp' h' t' e' with ⟨q, r⟩ | ⟨q, r⟩
      · rw [q, r]; simp [cutFrom, kp]
      · rw [q]
        have := skp_len g
        exact cut_kp text n (skp g) (by omega) (fun z hz => hg z (skp_mem g z hz)) _ (by rw [← r]; congr 1; omega)
    · subst hz
      have hp' : text.drop (p + 1) = g.flatten := by rw [← List.drop_drop, hp]; rfl
      rw [mS_cons]
      show cutFrom text (spl1 10 (10 :: mS g)) p = _
      rw [spl_hit, from_nil, ih _ hp']
      rw [kp.eq_2]; simp
    · subst hz
      have hp' : text.drop (p + 2) = g.flatten := by rw [← List.drop_drop, hp]; rfl
      rw [mS_cons]
      show cutFrom text (spl1 10 (48 :: 48 :: mS g)) p = _
      rw [spl_miss (by decide) (spl_miss (by decide) e'), from_two, ← e', ih _ hp', hp]
      rw [kp.eq_2]; simp
theorem cut_law (s : List Nat) (h : ∀ c ∈ s, c ∈ alph) : cutV s = if (rs s).2 then none else some (kp (rs s).1) := by
  have hm := msk_all s
  rw [mT_signs s h] at hm
  have hsg := rs_sg s h
  have h92 := mS_no92 _ hsg
  have hf := rs_flat s
  unfold cutV
  rw [hm, slc_last, splitL_eq (by decide +kernel), cutAt_from]
  cases he : (rs s).2
  · rw [he] at hf
    simp only [Bool.false_eq_true, if_false, List.append_nil] at hf ⊢
    rw [if_neg, cut_kp s _ _ (Nat.le_refl _) hsg 0 (by rw [hf]; rfl)]
    intro e
    exact h92 (List.mem_of_mem_drop (by rw [e]; simp : (92 : Nat) ∈ (mS (rs s).1).drop _))
  · simp
theorem rs_flatten (g : List (List Nat)) (h : ∀ z ∈ g, Sg z) : rs g.flatten = (g, false) := by
  induction g with
  | nil => rfl
  | cons z g ih =>
    have ih := ih (fun y hy => h y (by simp [hy]))
    rcases h z (by simp) with rfl | rfl | rfl | rfl | ⟨d, rfl⟩
    all_goals first
      | (show rs (_ :: g.flatten) = _; rw [rs_plain _ (by decide), ih]; done)
      | (show rs (92 :: d :: g.flatten) = _; rw [rs_esc, ih])
theorem kp_keep (g : List (List Nat)) (h : ∀ z ∈ g, z ≠ [35] ∧ z ≠ [32] ∧ z ≠ [10]) : kp g = g := by
  induction g with
  | nil => rw [kp]
  | cons z g ih =>
    have hz := h z (by simp)
    rw [kp.eq_2, if_neg hz.1, if_neg (by simp [hz]), ih (fun y hy => h y (by simp [hy]))]
theorem kp_not (g : List (List Nat)) : ∀ z ∈ kp g, z ≠ [35] ∧ z ≠ [32] ∧ z ≠ [10] := by
  induction g using kp.induct with
  | case1 => simp [kp]
  | case2 r ih => rw [kp.eq_2, if_pos rfl]; exact ih
  | case3 s r h1 h2 ih => rw [kp.eq_2, if_neg h1, if_pos h2]; exact ih
  | case4 s r h1 h2 ih =>
    rw [kp.eq_2, if_neg h1, if_neg h2]
    intro z hz
    rcases List.mem_cons.mp hz with rfl | hz
    · exact ⟨h1, fun e => h2 (.inl e), fun e => h2 (.inr e)⟩
    · exact ih z hz
theorem again_law (s : List Nat) (h : ∀ c ∈ s, c ∈ alph) (he : (rs s).2 = false) : rs (kp (rs s).1).flatten = (kp (rs s).1, false) ∧ kp (kp (rs s).1) = kp (rs s).1 :=
  ⟨rs_flatten _ fun z hz => rs_sg s h z (kp_mem _ z hz), kp_keep _ (kp_not _)⟩
end Mine
namespace Mine
open PySem PySem.W PySem.Calls PySem.Spec PyProof.Rows
theorem s_al : (Str.ofString "a #\n\\\\").cps.toList = [97, 32, 35, 10, 92, 92] := by decide +kernel
theorem s_tail : (Str.ofString "aa\\").cps.toList = [97, 97, 92] := by decide +kernel
noncomputable def letter (n : Int) : List Nat := [[97, 32, 35, 10, 92, 92].getD (n.fmod 6).toNat 0]
noncomputable def lastl (ns : List Int) : List Nat := [[97, 97, 92].getD (ns.sum.fmod 3).toNat 0]
noncomputable def textOf (ns : List Int) : List Nat := ((ns.take 8).map letter).flatten ++ lastl ns
theorem fmod_nat (n : Int) (k : Nat) (hk : 0 < k) : n.fmod k = ((n.fmod k).toNat : Int) ∧ (n.fmod k).toNat < k := by
  rw [Int.fmod_eq_emod_of_nonneg n (by omega)]
  have h1 := Int.emod_nonneg n (b := (k : Int)) (by omega)
  have h2 := Int.emod_lt_of_pos n (b := (k : Int)) (by omega)
  omega
theorem letter_alph (n : Int) : ∀ c ∈ letter n, c ∈ alph := by
  have h1 := (fmod_nat n 6 (by decide)).2
  have h2 : ∀ k, k < 6 → [97, 32, 35, 10, 92, 92].getD k 0 ∈ alph := by decide
  intro c hc
  rw [List.mem_singleton.mp hc]
  exact h2 _ h1
theorem shp_pair {ks : List (List Nat)} {s : List Nat} (h1 : ∀ k ∈ ks, ∀ c ∈ k, c < 1114112) (h2 : ∀ c ∈ s, c < 1114112) : Shp (.tup [.lst (ks.map .str), .str s]) := by
  have p1 : V.plains (ks.map V.str) = true := by
    clear h1
    induction ks with
    | nil => rfl
    | cons k ks ih => simpa [V.plains, V.plain] using ih
  have p2 : PyData.canLayAll0 (V.dats (ks.map V.str)) = true := by
    induction ks with
    | nil => rfl
    | cons k ks ih =>
      have e1 : PyData.strOk (mk k) = true := by unfold PyData.strOk; simpa using h1 k (by simp)
      simp only [List.map_cons, V.dats, V.dat, PyData.canLayAll0, PyData.canLay0, Bool.and_eq_true]
      exact ⟨e1, ih (fun z hz => h1 z (by simp [hz])) (by simpa [V.plains, V.plain] using p1)⟩
  have p3 : PyData.depthAll (V.dats (ks.map V.str)) = 0 := by
    clear h1 p1 p2
    induction ks with
    | nil => rfl
    | cons k ks ih => simp only [List.map_cons, V.dats, V.dat, PyData.depthAll, PyData.depth, ih]; rfl
  have e2 : PyData.strOk (mk s) = true := by unfold PyData.strOk; simpa using h2
  refine ⟨by simp [V.plain, V.plains, p1], ?_⟩
  simp [V.dat, V.dats, PyData.canLay0, PyData.canLayAll0, PyData.depth, PyData.depthAll, p2, p3, e2]
theorem shp_none : Shp .none := ⟨rfl, by decide⟩
theorem slc_up (l : List V) (k : Nat) : slc l none (some (k : Int)) = l.take k := by
  unfold slc kms_lo kms_hi
  dsimp only
  rw [if_neg (by omega)]
  simp
theorem slc_from (l : List Nat) (k : Nat) (h : k ≤ l.length) : slc l (some (k : Int)) none = l.drop k := by
  unfold slc kms_lo kms_hi
  dsimp only
  rw [if_neg (by omega)]
  simp
  rw [Nat.min_eq_left h, List.take_of_length_le (by simp)]
theorem getD_some {l : List Nat} {k : Nat} (h : k < l.length) : l[k]? = some (l.getD k 0) := by simp [List.getD_eq_getElem?_getD, h]
theorem acc_text (ns : List Int) : accOf (fun _ => true) (fun i => V.str (letter (ns.getD i 0))) ((ns.map V.int).take 8).length = ((ns.take 8).map letter).map .str := by
  unfold accOf
  rw [List.filter_eq_self.mpr (by simp)]
  apply List.ext_getElem
  · simp
  · intro i h1 h2
    simp at h1 h2
    have hi : i < ns.length := by omega
    simp [List.getD_eq_getElem?_getD, List.getElem?_eq_getElem hi]
theorem letters_flat (ns : List Int) (k : Nat) : ((ns.take k).map letter).flatten.length ≤ k := by
  have : ∀ l : List Int, (l.map letter).flatten.length = l.length := fun l => by
    induction l with
    | nil => rfl
    | cons a l ih => simp [letter] at ih ⊢; omega
  rw [this, List.length_take]; omega
theorem text_len (ns : List Int) : (textOf ns).length ≤ 9 := by
  unfold textOf
  have := letters_flat ns 8
  rw [List.length_append]
  simp [lastl] at this ⊢; omega
theorem text_alph (ns : List Int) : ∀ c ∈ textOf ns, c ∈ alph := by
  intro c hc
  unfold textOf at hc
  rcases List.mem_append.mp hc with h | h
  · obtain ⟨l, hl, h⟩ := List.mem_flatten.mp h
    obtain ⟨z, _, rfl⟩ := List.mem_map.mp hl
    exact letter_alph z c h
  · unfold lastl at h
    have := (fmod_nat ns.sum 3 (by decide)).2
    rw [show ((3 : Nat) : Int) = 3 from rfl] at this
    generalize (ns.sum.fmod 3).toNat = k at this h
    have hk : k = 0 ∨ k = 1 ∨ k = 2 := by omega
    rcases hk with rfl | rfl | rfl <;> (simp [alph] at h ⊢; simp [h])
theorem text_bs (ns : List Int) : textOf ns ≠ [92] := by
  intro e
  cases ns with
  | nil => simp [textOf, lastl] at e
  | cons a r =>
    have := congrArg List.length e
    simp [textOf, letter, lastl] at this
theorem flat_mem {ls : List (List Nat)} {s : List Nat} (h : ls.flatten = s) {k : List Nat} (hk : k ∈ ls) {c : Nat} (hc : c ∈ k) : c ∈ s := by rw [← h]; exact List.mem_flatten.mpr ⟨k, hk, hc⟩
theorem alph_lt {c : Nat} (h : c ∈ alph) : c < 1114112 := by
  have : c = 97 ∨ c = 32 ∨ c = 35 ∨ c = 10 ∨ c = 92 := by simpa [alph] using h
  omega
inductive LInv (text : List Nat) (a dx : Addr) (i : Nat) (σ' : S) : Prop
  | mk (j : Nat) (e : V) (tk : Tk σ'.hp a dx text j e) (hel : ∀ w, e ≠ .lit w) (et : lk σ'.loc "text" = some (.str text)) (ett : lk σ'.loc "t" = some (.ref a))
set_option maxHeartbeats 8000000 in
theorem w_law {pp : Params} {X : Cx} {n : Nat} {ns : List Int} (ok : Ok X (n + 8)) (hK : X.K = KK pp) (hP : X.prog = PySem.Challenge.rw_ij0062_06.row.prog) (hc : X.ctx = none) (hI : In X X (fdAt (KK pp) 163)) (hns : ns.length ≤ 63) :
    WXs X (bodyAt (KK pp) 163) ⟨[("script", .lst (ns.map .int))], fun _ => none⟩ (fun fl _ => fl = .ret (.bool true)) F0 := by
  conv in bodyAt _ _ => whnf
  refine W.hideQ fun Q1 hQ1 => ?_
  ((try dsimp only); (with_reducible refine WXs_cons ?_))
  ((try dsimp only); (with_reducible refine WX_Assign (hs := ?hsz421) (by assumption) ?hkz421 ?_); (case hsz421 => intro _; rfl); (case hkz421 => (have hh := In.scope ‹In _ _ _›; exact kindE hh (by kernel_rfl))))
  ((try dsimp only); (with_reducible refine W_BinOp ?_))
  refine W_Method (hbase := by intro _; rfl) (hfew := by intro _; rfl) (hline := by rfl) (hplain := by intro _; rfl) ok ?_
  refine W_str s_e ?_
  refine gm_str F.slot_str_join F.type_str_join ⟨keeps_builtin, ?_⟩
  refine WA_cons ?_
  refine W_Comp (hs := by intro _ _; rfl) (cl := []) ok hc (closL_ok rfl (by kernel_rfl)) (by decide) rfl (by decide +kernel) (by kernel_rfl) ?_
  refine wit_val ?_
  refine W_SliceLst (ht := by intro _ _; rfl) ?_
  ((try dsimp only); ((with_reducible refine W_local (d := ?dz423) (by assumption) ?hkz423 ?hlz423 ?qz423 ?hdz423); (case hkz423 => (have hh := In.scope ‹In _ _ _›; exact kindE hh (by kernel_rfl))); (case hlz423 => ((with_reducible exact lk_hit))); (case hdz423 => decide +kernel); (try dsimp only)))
  refine WP_none ?_
  refine WP_some ?_
  ((try dsimp only); ((with_reducible refine W_int ?_); (try dsimp only)))
  refine ⟨_, _, _, .val _, by rw [List.length_map]; omega, .none, .int _, _, _, itb_lst, ?_⟩
  rw [show (8 : Int) = ((8 : Nat) : Int) from rfl, slc_up]
  have hlen : ((ns.map V.int).take 8).length ≤ 8 := by rw [List.length_take]; omega
  refine ⟨by omega, fun _ => true, fun i => .str (letter (ns.getD i 0)), fun Z D i hi _ inc okZ => ?_, ?_⟩
  · refine CT_nil ⟨rfl, rfl, fun _ => ?_⟩
    show WE Z _ _ _ _
    have hdi : ((ns.map V.int).take 8).getD i .none = .int (ns.getD i 0) := by
      rw [List.length_take, List.length_map] at hi
      rw [List.getD_eq_getElem?_getD, List.getElem?_take, if_pos (by omega), List.getElem?_map, List.getD_eq_getElem?_getD, List.getElem?_eq_getElem (by omega)]; rfl
    rw [hdi]
    ((try dsimp only); (with_reducible refine W_Sub ?_))
    refine W_str s_al ?_
    ((try dsimp only); (with_reducible refine W_BinOp ?_))
    refine W_local (d := _) okZ (inc.kind hI.scope (by kernel_rfl)) lk_hit ?_ (by decide +kernel)
    ((try dsimp only); ((with_reducible refine W_int ?_); (try dsimp only)))
    refine o_modi (by decide) ?_
    obtain ⟨f1, f2⟩ := fmod_nat (ns.getD i 0) 6 (by decide)
    rw [show ((6 : Nat) : Int) = 6 from rfl] at f1 f2
    rw [f1]
    refine s_strItem (hs := by intro _ _ _ _; with_unfolding_all rfl) (ht := by intro _ _ _; with_unfolding_all rfl) okZ (inc.ctx.trans hc) (by decide) (by omega) ?_
    have e : ([97, 32, 35, 10, 92, 92] : List Nat)[((ns.getD i 0).fmod 6).toNat]? = some ([97, 32, 35, 10, 92, 92].getD ((ns.getD i 0).fmod 6).toNat 0) := by
      exact getD_some (by simpa using f2)
    rw [e]
    exact ⟨rfl, rfl⟩
  · refine WA_nil ?_
    rw [acc_text]
    refine c_join (ls := (ns.take 8).map letter) (fun l hl => ?_) (by simp) (by simp; omega) (.val _) ?_
    · obtain ⟨z, _, rfl⟩ := List.mem_map.mp hl
      simp [letter]
    rw [joinL_eq, jn_nil]
    have hlf := letters_flat ns 8
    ((try dsimp only); (with_reducible refine W_Sub ?_))
    refine W_str s_tail ?_
    ((try dsimp only); (with_reducible refine W_BinOp ?_))
    refine W_Call (hplain := by intro _; rfl) ok ?_
    refine W_bi (v := .builtin "sum") ok hK (by (have hh := In.scope ‹In _ _ _›; exact kindE hh (by kernel_rfl))) (b_sum _) (by kernel_rfl) (by decide +kernel) (by decide +kernel) ?_
    refine ⟨_, rfl, keeps_builtin, ?_⟩
    refine WA_cons ?_
    ((try dsimp only); ((with_reducible refine W_local (d := ?dz431) (by assumption) ?hkz431 ?hlz431 ?qz431 ?hdz431); (case hkz431 => (have hh := In.scope ‹In _ _ _›; exact kindE hh (by kernel_rfl))); (case hlz431 => ((with_reducible exact lk_hit))); (case hdz431 => decide +kernel); (try dsimp only)))
    refine WA_nil ?_
    refine c_sum ok hc ?_
    ((try dsimp only); ((with_reducible refine W_int ?_); (try dsimp only)))
    refine o_modi (by decide) ?_
    obtain ⟨f1, f2⟩ := fmod_nat ns.sum 3 (by decide)
    rw [show ((3 : Nat) : Int) = 3 from rfl] at f1 f2
    rw [f1]
    refine s_strItem (hs := by intro _ _ _ _; with_unfolding_all rfl) (ht := by intro _ _ _; with_unfolding_all rfl) ok hc (by decide) (by omega) ?_
    rw [getD_some (l := [97, 97, 92]) (by simpa using f2)]
    dsimp only
    refine o_adds (by simp at hlf ⊢; omega) ?_
    show WXs X _ ⟨put _ _ (.str (textOf ns)), _⟩ _ _
    have htl := text_len ns
    have hal := text_alph ns
    have hbs := text_bs ns
    generalize textOf ns = text at htl hal hbs
    ((try dsimp only); (with_reducible refine WXs_cons ?_))
    ((try dsimp only); (with_reducible refine WX_Assign (hs := ?hsz434) (by assumption) ?hkz434 ?_); (case hsz434 => intro _; rfl); (case hkz434 => (have hh := In.scope ‹In _ _ _›; exact kindE hh (by kernel_rfl))))
    refine W_Call (hplain := by intro _; rfl) ok ?_
    refine W_gl ok hK (by (have hh := In.scope ‹In _ _ _›; exact kindE hh (by kernel_rfl))) (g_tok _) (by decide +kernel) ?_
    refine ⟨_, rfl, keeps_fn hK (by kernel_rfl), ?_⟩
    refine WA_cons ?_
    ((try dsimp only); ((with_reducible refine W_local (d := ?dz436) (by assumption) ?hkz436 ?hlz436 ?qz436 ?hdz436); (case hkz436 => (have hh := In.scope ‹In _ _ _›; exact kindE hh (by kernel_rfl))); (case hlz436 => ((with_reducible exact lk_put_self))); (case hdz436 => decide +kernel); (try dsimp only)))
    refine WA_nil ?_
    refine c_new (n := n + 5) ok hK hP hc (by omega) fun a dx hp' h1 h2 h3 => ?_
    have hsg := sg_rs (l := text) (i := 0) (by omega)
    rw [List.drop_zero] at hsg
    cases hs0 : sg text 0 with
    | none =>
      rw [hs0] at hsg
      have := rs_flat text
      rw [hsg] at this
      exact absurd this.symm hbs
    | some je =>
      obtain ⟨j0, e0⟩ := je
      rw [hs0] at hsg
      dsimp only at hsg ⊢
      intro tk0
      ((try dsimp only); (with_reducible refine WXs_cons ?_))
      refine WX_For (hs := by intro _ _; rfl) ok hc hI.env (by (have hh := In.scope ‹In _ _ _›; exact kindE hh (by kernel_rfl))) (LInv text a dx) ?_
      refine wit_range1 ok (KB.of hK (by (have hh := In.scope ‹In _ _ _›; exact kindE hh (by kernel_rfl))) (b_range _) (by kernel_rfl)) (fun _ => rfl) ?_
      refine WA_cons ?_
      ((try dsimp only); (with_reducible refine W_BinOp ?_))
      refine W_Call (hplain := by intro _; rfl) ok ?_
      refine W_bi (v := .builtin "len") ok hK (by (have hh := In.scope ‹In _ _ _›; exact kindE hh (by kernel_rfl))) (b_len _) (by kernel_rfl) (by decide +kernel) (by decide +kernel) ?_
      refine ⟨_, rfl, keeps_builtin, ?_⟩
      refine WA_cons ?_
      ((try dsimp only); ((with_reducible refine W_local (d := ?dz442) (by assumption) ?hkz442 ?hlz442 ?qz442 ?hdz442); (case hkz442 => (have hh := In.scope ‹In _ _ _›; exact kindE hh (by kernel_rfl))); (case hlz442 => ((with_reducible refine lkp_skip ?hne2z442 ?hrest2z442); (case hne2z442 => decide +kernel); (with_reducible exact lk_put_self))); (case hdz442 => decide +kernel); (try dsimp only)))
      refine WA_nil ?_
      refine c_lens (by omega) ?_
      ((try dsimp only); ((with_reducible refine W_int ?_); (try dsimp only)))
      refine o_addi ?_
      refine WA_nil ⟨text.length + 1, rfl, by omega, ⟨j0, e0, tk0, hsg.lit, by ((with_reducible refine lkp_skip ?hne2z444 ?hrest2z444); (case hne2z444 => decide +kernel); (with_reducible exact lk_put_self)), by ((with_reducible exact lk_put_self))⟩, fun i σ' wr hi inv okw => ?_, fun σ' inv => ?_⟩
      · obtain ⟨loc, hp⟩ := σ'
        obtain ⟨j, e, tk, hel, et, ett⟩ := inv
        dsimp only at tk et ett
        have hik : i ≤ text.length := by omega
        have hal' : ∀ c ∈ text.drop i, c ∈ alph := fun c hc => hal c (List.mem_of_mem_drop hc)
        have hcut := cut_law _ hal'
        have hfl := rs_flat (text.drop i)
        have hsl : (text.drop i).length ≤ 9 := by rw [List.length_drop]; omega
        refine W.hideQ fun Q2 hQ2 => ?_
        ((try dsimp only); (with_reducible refine WXs_cons ?_))
        ((try dsimp only); (with_reducible refine WX_Assign (hs := ?hsz447) (by assumption) ?hkz447 ?_); (case hsz447 => intro _; rfl); (case hkz447 => (have hh := In.scope ‹In _ _ _›; exact kindE hh (by kernel_rfl))))
        refine W_Call (hplain := by intro _; rfl) okw ?_
        refine W_gl okw hK (by (have hh := In.scope ‹In _ _ _›; exact kindE hh (by kernel_rfl))) (g_cut _) (by decide +kernel) ?_
        refine ⟨_, rfl, keeps_fn hK (by kernel_rfl), ?_⟩
        refine WA_cons ?_
        refine W_SliceStr (ht := by intro _ _ _; with_unfolding_all rfl) ?_
        ((try dsimp only); ((with_reducible refine W_local (d := ?dz449) (by assumption) ?hkz449 ?hlz449 ?qz449 ?hdz449); (case hkz449 => (have hh := In.scope ‹In _ _ _›; exact kindE hh (by kernel_rfl))); (case hlz449 => ((with_reducible refine lkp_skip ?hne2z449 ?hrest2z449); (case hne2z449 => decide +kernel); (with_reducible assumption))); (case hdz449 => decide +kernel); (try dsimp only)))
        refine WP_some ?_
        ((try dsimp only); ((with_reducible refine W_local (d := ?dz450) (by assumption) ?hkz450 ?hlz450 ?qz450 ?hdz450); (case hkz450 => (have hh := In.scope ‹In _ _ _›; exact kindE hh (by kernel_rfl))); (case hlz450 => ((with_reducible exact lk_put_self))); (case hdz450 => decide +kernel); (try dsimp only)))
        refine WP_none ?_
        refine ⟨_, _, _, rfl, by omega, .int _, .none, ?_⟩
        rw [slc_from _ _ hik]
        refine WA_nil ?_
        refine c_cut (n := n + 7) okw hK hP hc (by omega) ?_
        rw [hcut]
        cases her : (rs (text.drop i)).2 with
        | true =>
          rw [if_pos rfl]
          dsimp only
          ((try dsimp only); (with_reducible refine WXs_cons ?_))
          ((try dsimp only); (with_reducible refine WX_If ?_))
          ((try dsimp only); ((with_reducible refine WT_Compare (hm := ?hmz453) ?_); (case hmz453 => with_unfolding_all rfl)))
          refine W_Call (hplain := by intro _; rfl) okw ?_
          refine W_gl okw hK (by (have hh := In.scope ‹In _ _ _›; exact kindE hh (by kernel_rfl))) (g_sought _) (by decide +kernel) ?_
          refine ⟨_, rfl, keeps_fn hK (by kernel_rfl), ?_⟩
          refine WA_cons ?_
          ((try dsimp only); ((with_reducible refine W_local (d := ?dz455) (by assumption) ?hkz455 ?hlz455 ?qz455 ?hdz455); (case hkz455 => (have hh := In.scope ‹In _ _ _›; exact kindE hh (by kernel_rfl))); (case hlz455 => ((with_reducible refine lkp_skip ?hne3z455 ?hrest3z455); (case hne3z455 => decide +kernel); (with_reducible refine lkp_skip ?hne2z455 ?hrest2z455); (case hne2z455 => decide +kernel); (with_reducible assumption))); (case hdz455 => decide +kernel); (try dsimp only)))
          refine WA_cons ?_
          ((try dsimp only); ((with_reducible refine W_local (d := ?dz456) (by assumption) ?hkz456 ?hlz456 ?qz456 ?hdz456); (case hkz456 => (have hh := In.scope ‹In _ _ _›; exact kindE hh (by kernel_rfl))); (case hlz456 => ((with_reducible refine lkp_skip ?hne2z456 ?hrest2z456); (case hne2z456 => decide +kernel); (with_reducible exact lk_put_self))); (case hdz456 => decide +kernel); (try dsimp only)))
          refine WA_nil ?_
          refine c_sought (n := n + 3) okw hK hP hc tk hel (by omega) hik fun j' e' hl' => ?_
          have tk' := tk.upd j' e'
          generalize upd hp dx (.dict (tokFs text j' e')) = hp1 at tk' ⊢
          rw [her, if_pos rfl]
          refine W_IfExp ?_
          ((try dsimp only); ((with_reducible refine WT_Compare (hm := ?hmz457) ?_); (case hmz457 => with_unfolding_all rfl)))
          ((try dsimp only); ((with_reducible refine W_local (d := ?dz458) (by assumption) ?hkz458 ?hlz458 ?qz458 ?hdz458); (case hkz458 => (have hh := In.scope ‹In _ _ _›; exact kindE hh (by kernel_rfl))); (case hlz458 => ((with_reducible exact lk_put_self))); (case hdz458 => decide +kernel); (try dsimp only)))
          ((try dsimp only); ((with_reducible refine W_none ?_); (try dsimp only)))
          refine o_isnone trivial (t_bool ?_)
          rw [if_pos (by rfl)]
          ((try dsimp only); ((with_reducible refine W_none ?_); (try dsimp only)))
          refine o_ned okw shp_none shp_none ?_
          rw [eqv_self shp_none]
          refine t_bool ?_
          rw [if_neg (by decide)]
          ((try dsimp only); ((with_reducible refine WXs_nil ?_); (try dsimp only)))
          ((try dsimp only); (with_reducible refine WXs_cons ?_))
          ((try dsimp only); (with_reducible refine WX_If ?_))
          ((try dsimp only); (with_reducible refine WT_And2 ?_))
          ((try dsimp only); ((with_reducible refine WT_Compare (hm := ?hmz465) ?_); (case hmz465 => with_unfolding_all rfl)))
          ((try dsimp only); ((with_reducible refine W_local (d := ?dz466) (by assumption) ?hkz466 ?hlz466 ?qz466 ?hdz466); (case hkz466 => (have hh := In.scope ‹In _ _ _›; exact kindE hh (by kernel_rfl))); (case hlz466 => ((with_reducible exact lk_put_self))); (case hdz466 => decide +kernel); (try dsimp only)))
          ((try dsimp only); ((with_reducible refine W_none ?_); (try dsimp only)))
          refine o_notnone trivial (t_bool ?_)
          rw [if_neg (by decide), if_neg (by decide)]
          ((try dsimp only); ((with_reducible refine WXs_nil ?_); (try dsimp only)))
          ((try dsimp only); ((with_reducible refine WXs_nil ?_); (try dsimp only)))
          exact hQ2 _ _ ⟨j', e', tk', hl', by ((with_reducible refine lkp_skip ?hne3z470 ?hrest3z470); (case hne3z470 => decide +kernel); (with_reducible refine lkp_skip ?hne2z470 ?hrest2z470); (case hne2z470 => decide +kernel); (with_reducible assumption)), by ((with_reducible refine lkp_skip ?hne3z471 ?hrest3z471); (case hne3z471 => decide +kernel); (with_reducible refine lkp_skip ?hne2z471 ?hrest2z471); (case hne2z471 => decide +kernel); (with_reducible assumption))⟩
        | false =>
          rw [if_neg (by decide)]
          dsimp only
          rw [her, if_neg (by decide), List.append_nil] at hfl
          have hag := again_law _ hal' her
          have hb := rs_bounds (text.drop i)
          have hsig := rs_sign (text.drop i)
          have hSp : Shp (.tup [.lst ((kp (rs (text.drop i)).1).map .str), .str (text.drop i)]) := shp_pair (fun k hk c hc => alph_lt (hal' c (flat_mem hfl (kp_mem _ k hk) hc))) fun c hc => alph_lt (hal' c hc)
          have hSp2 : Shp (.tup [.lst ((kp (rs (text.drop i)).1).map .str), .str (kp (rs (text.drop i)).1).flatten]) := shp_pair (fun k hk c hc => alph_lt (hal' c (flat_mem hfl (kp_mem _ k hk) hc))) fun c hc => by
            obtain ⟨k, hk, hc⟩ := List.mem_flatten.mp hc
            exact alph_lt (hal' c (flat_mem hfl (kp_mem _ k hk) hc))
          have hkl := kp_len (rs (text.drop i)).1
          have hks : ∀ k ∈ kp (rs (text.drop i)).1, k.length ≤ 2 := fun k hk => (hsig k (kp_mem _ k hk)).2
          ((try dsimp only); (with_reducible refine WXs_cons ?_))
          ((try dsimp only); (with_reducible refine WX_If ?_))
          ((try dsimp only); ((with_reducible refine WT_Compare (hm := ?hmz474) ?_); (case hmz474 => with_unfolding_all rfl)))
          refine W_Call (hplain := by intro _; rfl) okw ?_
          refine W_gl okw hK (by (have hh := In.scope ‹In _ _ _›; exact kindE hh (by kernel_rfl))) (g_sought _) (by decide +kernel) ?_
          refine ⟨_, rfl, keeps_fn hK (by kernel_rfl), ?_⟩
          refine WA_cons ?_
          ((try dsimp only); ((with_reducible refine W_local (d := ?dz476) (by assumption) ?hkz476 ?hlz476 ?qz476 ?hdz476); (case hkz476 => (have hh := In.scope ‹In _ _ _›; exact kindE hh (by kernel_rfl))); (case hlz476 => ((with_reducible refine lkp_skip ?hne3z476 ?hrest3z476); (case hne3z476 => decide +kernel); (with_reducible refine lkp_skip ?hne2z476 ?hrest2z476); (case hne2z476 => decide +kernel); (with_reducible assumption))); (case hdz476 => decide +kernel); (try dsimp only)))
          refine WA_cons ?_
          ((try dsimp only); ((with_reducible refine W_local (d := ?dz477) (by assumption) ?hkz477 ?hlz477 ?qz477 ?hdz477); (case hkz477 => (have hh := In.scope ‹In _ _ _›; exact kindE hh (by kernel_rfl))); (case hlz477 => ((with_reducible refine lkp_skip ?hne2z477 ?hrest2z477); (case hne2z477 => decide +kernel); (with_reducible exact lk_put_self))); (case hdz477 => decide +kernel); (try dsimp only)))
          refine WA_nil ?_
          refine c_sought (n := n + 3) okw hK hP hc tk hel (by omega) hik fun j' e' hl' => ?_
          have tk' := tk.upd j' e'
          generalize upd hp dx (.dict (tokFs text j' e')) = hp1 at tk' ⊢
          rw [her, if_neg (by decide), hfl]
          refine W_IfExp ?_
          ((try dsimp only); ((with_reducible refine WT_Compare (hm := ?hmz478) ?_); (case hmz478 => with_unfolding_all rfl)))
          ((try dsimp only); ((with_reducible refine W_local (d := ?dz479) (by assumption) ?hkz479 ?hlz479 ?qz479 ?hdz479); (case hkz479 => (have hh := In.scope ‹In _ _ _›; exact kindE hh (by kernel_rfl))); (case hlz479 => ((with_reducible exact lk_put_self))); (case hdz479 => decide +kernel); (try dsimp only)))
          ((try dsimp only); ((with_reducible refine W_none ?_); (try dsimp only)))
          refine o_isnone trivial (t_bool ?_)
          rw [if_neg (by show ¬ (false = true); decide)]
          refine W_Tuple ?_
          refine WA_cons ?_
          ((try dsimp only); ((with_reducible refine W_local (d := ?dz481) (by assumption) ?hkz481 ?hlz481 ?qz481 ?hdz481); (case hkz481 => (have hh := In.scope ‹In _ _ _›; exact kindE hh (by kernel_rfl))); (case hlz481 => ((with_reducible exact lk_put_self))); (case hdz481 => decide +kernel); (try dsimp only)))
          refine WA_cons ?_
          refine W_SliceStr (ht := by intro _ _ _; with_unfolding_all rfl) ?_
          ((try dsimp only); ((with_reducible refine W_local (d := ?dz482) (by assumption) ?hkz482 ?hlz482 ?qz482 ?hdz482); (case hkz482 => (have hh := In.scope ‹In _ _ _›; exact kindE hh (by kernel_rfl))); (case hlz482 => ((with_reducible refine lkp_skip ?hne3z482 ?hrest3z482); (case hne3z482 => decide +kernel); (with_reducible refine lkp_skip ?hne2z482 ?hrest2z482); (case hne2z482 => decide +kernel); (with_reducible assumption))); (case hdz482 => decide +kernel); (try dsimp only)))
          refine WP_some ?_
          ((try dsimp only); ((with_reducible refine W_local (d := ?dz483) (by assumption) ?hkz483 ?hlz483 ?qz483 ?hdz483); (case hkz483 => (have hh := In.scope ‹In _ _ _›; exact kindE hh (by kernel_rfl))); (case hlz483 => ((with_reducible refine lkp_skip ?hne2z483 ?hrest2z483); (case hne2z483 => decide +kernel); (with_reducible exact lk_put_self))); (case hdz483 => decide +kernel); (try dsimp only)))
          refine WP_none ?_
          refine ⟨_, _, _, rfl, by omega, .int _, .none, ?_⟩
          rw [slc_from _ _ hik]
          refine WA_nil ⟨by simp, ?_⟩
          refine o_ned okw hSp hSp ?_
          rw [eqv_self hSp]
          refine t_bool ?_
          rw [if_neg (by decide)]
          generalize kp (rs (text.drop i)).1 = K at *
          ((try dsimp only); ((with_reducible refine WXs_nil ?_); (try dsimp only)))
          ((try dsimp only); (with_reducible refine WXs_cons ?_))
          ((try dsimp only); (with_reducible refine WX_If ?_))
          ((try dsimp only); (with_reducible refine WT_And2 ?_))
          ((try dsimp only); ((with_reducible refine WT_Compare (hm := ?hmz488) ?_); (case hmz488 => with_unfolding_all rfl)))
          ((try dsimp only); ((with_reducible refine W_local (d := ?dz489) (by assumption) ?hkz489 ?hlz489 ?qz489 ?hdz489); (case hkz489 => (have hh := In.scope ‹In _ _ _›; exact kindE hh (by kernel_rfl))); (case hlz489 => ((with_reducible exact lk_put_self))); (case hdz489 => decide +kernel); (try dsimp only)))
          ((try dsimp only); ((with_reducible refine W_none ?_); (try dsimp only)))
          refine o_notnone trivial (t_bool ?_)
          rw [if_pos (by rfl)]
          ((try dsimp only); ((with_reducible refine WT_Compare (hm := ?hmz491) ?_); (case hmz491 => with_unfolding_all rfl)))
          refine W_Call (hplain := by intro _; rfl) okw ?_
          refine W_gl okw hK (by (have hh := In.scope ‹In _ _ _›; exact kindE hh (by kernel_rfl))) (g_kept _) (by decide +kernel) ?_
          refine ⟨_, rfl, keeps_fn hK (by kernel_rfl), ?_⟩
          refine WA_cons ?_
          refine W_Call (hplain := by intro _; rfl) okw ?_
          refine W_gl okw hK (by (have hh := In.scope ‹In _ _ _›; exact kindE hh (by kernel_rfl))) (g_tok _) (by decide +kernel) ?_
          refine ⟨_, rfl, keeps_fn hK (by kernel_rfl), ?_⟩
          refine WA_cons ?_
          refine W_Method (hbase := by intro _; rfl) (hfew := by intro _; rfl) (hline := by rfl) (hplain := by intro _; rfl) okw ?_
          refine W_str s_e ?_
          refine gm_str F.slot_str_join F.type_str_join ⟨keeps_builtin, ?_⟩
          refine WA_cons ?_
          ((try dsimp only); ((with_reducible refine W_local (d := ?dz494) (by assumption) ?hkz494 ?hlz494 ?qz494 ?hdz494); (case hkz494 => (have hh := In.scope ‹In _ _ _›; exact kindE hh (by kernel_rfl))); (case hlz494 => ((with_reducible exact lk_put_self))); (case hdz494 => decide +kernel); (try dsimp only)))
          refine WA_nil ?_
          refine c_join (fun l hl => Nat.le_trans (hks l hl) (by decide)) (by simp) (by omega) (.val _) ?_
          rw [joinL_eq, jn_nil]
          refine WA_nil ?_
          have hKf : K.flatten.length ≤ 18 := by
            have : ∀ ls : List (List Nat), (∀ k ∈ ls, k.length ≤ 2) → ls.flatten.length ≤ 2 * ls.length := fun ls => by
              induction ls with
              | nil => simp
              | cons x r ih => intro h; have h1 := h x (by simp); have h2 := ih fun z hz => h z (by simp [hz]); simp at h2 ⊢; omega
            have := this K hks
            omega
          refine c_new (n := n + 5) okw hK hP hc (by omega) fun a2 dx2 hp2 h1' h2' h3' => ?_
          have hsg2 := sg_rs (l := K.flatten) (i := 0) (by omega)
          rw [List.drop_zero, hag.1] at hsg2
          cases hs2 : sg K.flatten 0 with
          | none =>
            rw [hs2] at hsg2
            cases hsg2
          | some je =>
            obtain ⟨j2, e2⟩ := je
            rw [hs2] at hsg2
            dsimp only at hsg2 ⊢
            intro tk2
            have tk3 : ∀ D, Tk (upd hp2 dx2 D) a dx text j' e' := fun D => by
              have i1 := tk'.inst
              have i2 := tk'.dict
              have n2 : hp1 dx2 = none := h2'
              refine ⟨?_, ?_⟩
              · rw [upd_ne (fun z => by rw [← z, i1] at n2; cases n2)]; exact h3' _ _ i1
              · rw [upd_ne (fun z => by rw [← z, i2] at n2; cases n2)]; exact h3' _ _ i2
            refine WA_nil ?_
            refine c_kept (n := n + 4) okw hK hP hc tk2 ?_ hsg2 ?_ ?_ (fun h => by cases h) fun _ j3 => ?_
            · omega
            · omega
            · omega
            rw [hag.2]
            refine W_Tuple ?_
            refine WA_cons ?_
            ((try dsimp only); ((with_reducible refine W_local (d := ?dz495) (by assumption) ?hkz495 ?hlz495 ?qz495 ?hdz495); (case hkz495 => (have hh := In.scope ‹In _ _ _›; exact kindE hh (by kernel_rfl))); (case hlz495 => ((with_reducible exact lk_put_self))); (case hdz495 => decide +kernel); (try dsimp only)))
            refine WA_cons ?_
            refine W_Method (hbase := by intro _; rfl) (hfew := by intro _; rfl) (hline := by rfl) (hplain := by intro _; rfl) okw ?_
            refine W_str s_e ?_
            refine gm_str F.slot_str_join F.type_str_join ⟨keeps_builtin, ?_⟩
            refine WA_cons ?_
            ((try dsimp only); ((with_reducible refine W_local (d := ?dz496) (by assumption) ?hkz496 ?hlz496 ?qz496 ?hdz496); (case hkz496 => (have hh := In.scope ‹In _ _ _›; exact kindE hh (by kernel_rfl))); (case hlz496 => ((with_reducible exact lk_put_self))); (case hdz496 => decide +kernel); (try dsimp only)))
            refine WA_nil ?_
            refine c_join (fun l hl => Nat.le_trans (hks l hl) (by decide)) (by simp) (by omega) (.val _) ?_
            rw [joinL_eq, jn_nil]
            refine WA_nil ⟨by simp, ?_⟩
            refine o_ned okw hSp2 hSp2 ?_
            rw [eqv_self hSp2]
            refine t_bool ?_
            rw [if_neg (by decide)]
            ((try dsimp only); ((with_reducible refine WXs_nil ?_); (try dsimp only)))
            ((try dsimp only); ((with_reducible refine WXs_nil ?_); (try dsimp only)))
            exact hQ2 _ _ ⟨j', e', tk3 _, hl', by ((with_reducible refine lkp_skip ?hne3z499 ?hrest3z499); (case hne3z499 => decide +kernel); (with_reducible refine lkp_skip ?hne2z499 ?hrest2z499); (case hne2z499 => decide +kernel); (with_reducible assumption)), by ((with_reducible refine lkp_skip ?hne3z500 ?hrest3z500); (case hne3z500 => decide +kernel); (with_reducible refine lkp_skip ?hne2z500 ?hrest2z500); (case hne2z500 => decide +kernel); (with_reducible assumption))⟩
      · ((try dsimp only); ((with_reducible refine WXs_nil ?_); (try dsimp only)))
        ((try dsimp only); (with_reducible refine WXs_cons ?_))
        ((try dsimp only); (with_reducible refine WX_Return ?_))
        ((try dsimp only); ((with_reducible refine W_bool ?_); (try dsimp only)))
        exact hQ1 _ _ rfl
end Mine
namespace Mine
open PySem PySem.W PyProof.Rows
set_option pp.deepTerms false
set_option maxHeartbeats 8000000 in
theorem tt : PySem.Challenge.rw_ij0062_06.Holds := hd (by
  k_go0
  rename_i hL ra w1 r0 hI hr hcond hc2 K0 hD h₁ F N0
  refine wpAny_mono (launch (K := hd.heap_39 ‹World›.params) (p := hd.view_39) (fd := fdAt (KK ‹World›.params) 163) (body := bodyAt (KK ‹World›.params) 163) (by assumption) (topRead_of (by assumption)) hL hI F (by rfl) rfl
    (fun X ok hK hP hw hc hI => w_law (n := 32) ok hK hP hc hI (by omega))) (fun f s' q => ?_) (fun e s' q => q.elim)
  obtain ⟨rfl, h', tk', rfl, hs⟩ := q
  exact ⟨.inl ⟨.bool true, .bool true, [], rfl, fun cls => rfl, .bool true, by wrow_post, fun _ => ⟨List.nodup_nil, fun a ha => by cases ha⟩⟩, hs, rfl, by assumption⟩)
end Mine

theorem PySem.Challenge.cw_ij0062_06_holds : PySem.Challenge.rw_ij0062_06.Holds := by
  exact Mine.tt
